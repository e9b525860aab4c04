/- impl.match, walked. -/
import Derived.Test.YtcolffccbmpndaaGreatDoorTrT
import Derived.Deep.RegionHeld3
namespace Go.Proofs.YtcolffccbmpndaaGreatDoor
open Go.RowKit Go.Deep
set_option maxRecDepth 100000

/-- Bytes appended to an empty row, as one step of a region that draws. -/
theorem step_copy {ops : Array Oper} {o : Oper} {a : Act} {w : World} {K : Act → World → Prop} {Q : Exit → Act → World → Prop} {E : Prop}
    (hg : o.guard = none) (s x : Operand) (hop : o.op = Op.call { callee := Callee.builtin Builtin.append, args := #[s, x], argTypes := #[23, 23] })
    (bsz : Nat) (hs : a.eval s = .slice (some ⟨bsz, 0, none⟩) 0 0) (ba : Option Addr) (l : List Int) (bc : Nat) (hx : a.eval x = .slice ba l.length bc) (hb : w.heap[bsz]? = some (.cells #[] 5 (0, 0))) (h : By w l ba bc) (hl : l.length ≤ 1000000)
    (hK : ∀ g c w', By w' l (some ⟨g, 0, none⟩) c → bsz ≤ g → Tch [bsz] w w' → K (a.put o.dst (.slice (some ⟨g, 0, none⟩) l.length c)) w') :
    if Region.wanted o (yielded ops a.tmps) = true then Oper.wp Tryz.prog o a w K Q else E := by
  have hw : Region.wanted o (yielded ops a.tmps) = true := by simp [Region.wanted, hg]
  rw [if_pos hw]
  obtain ⟨i0, hi, hz0, hz1, hz2⟩ := info_parts (show (Tryz.prog.info? 5).map (fun i => (i.zero, i.size, i.bytes)) = some (some (.int .u8 0), 1, 1) by kernel_rfl)
  have hown : w.ownsRow bsz 5 1 (.slice (some ⟨bsz, 0, none⟩) 0 0) 0 [] := ⟨rfl, .inr ⟨bsz, 0, #[], rfl, Nat.le_refl _, hb, Nat.le_refl _, Nat.zero_le _, rfl, rfl⟩⟩
  have hbl := lt_of_obj hb
  have key : ∃ v w', (Builtin.append_ #[23, 23] o.type #[.slice (some ⟨bsz, 0, none⟩) 0 0, .slice ba l.length bc]).run Tryz.prog w = .ok v w' ∧ ∃ g c, v = .slice (some ⟨g, 0, none⟩) l.length c ∧ By w' l (some ⟨g, 0, none⟩) c ∧ bsz ≤ g ∧ Tch [bsz] w w' := by
    cases ba with
    | none =>
      obtain ⟨rfl, rfl⟩ := h.nil rfl
      exact ⟨_, _, run_append_owned_none _ bsz 23 o.type 5 i0 1 Tryz.underlying23 hi _ 0 [] hown, bsz, 0, rfl, ⟨Nat.le_refl _, by simp, fun ad hd j hj => by simp at hj, by simp⟩, Nat.le_refl _, Tch.refl _ _⟩
    | some ad =>
      obtain ⟨v', w', hrun, ho, hg, -, hloc⟩ := run_append_own_at (P := Tryz.prog) w bsz 23 o.type 5 i0 (.int .u8 0) 1 1 Tryz.underlying23 hi hz0 hz1 hz2 rfl (by decide) _ 0 [] hown ad l.length bc (l.map (.int .u8)) (by simp) (fun j u hu => by
          have hj : j < l.length := by
            have := (List.getElem?_eq_some_iff.1 hu).1
            simpa using this
          rw [(h.cell ad rfl j hj).2]
          simp only [List.getElem?_map] at hu
          rw [← hu]
          simp [List.getD, List.getElem?_eq_getElem hj]) (by intro u hu; simp only [List.mem_map] at hu; obtain ⟨x, -, rfl⟩ := hu; rfl) (by unfold maxLen; omega) (by omega) (by omega)
      rw [Nat.zero_add, List.nil_append] at ho
      have hb' : ∃ g, v'.ownBlock = some g ∧ bsz ≤ g := by
        rcases hloc with e | e
        · exact ⟨_, e, Nat.le_refl _⟩
        · exact ⟨_, e, by omega⟩
      obtain ⟨g, hg1, hg2⟩ := hb'
      have hv : ∃ c', v' = .slice (some ⟨g, 0, none⟩) l.length c' ∧ l.length ≤ c' := by
        rcases ho.2 with ⟨e, -⟩ | ⟨g', cap, cur, e, -, -, hn, -⟩
        · rw [e] at hg1; simp [Value.ownBlock] at hg1
        · rw [e] at hg1; simp [Value.ownBlock] at hg1; subst hg1; exact ⟨cap, e, hn⟩
      obtain ⟨c', rfl, hc'⟩ := hv
      refine ⟨_, w', hrun, g, c', rfl, ⟨hc', by simp, fun ad' hd j hj => ?_, h.u8⟩, hg2, (Tch.refl _ _).grown hg (fun k hk hlt => by simp [Value.ownBlock] at hk; simp [hk])⟩
      simp only [Option.some.injEq] at hd
      subst hd
      refine ⟨own_lt ho rfl, ?_⟩
      exact (own_cell ho (j := j) (u := .int .u8 (l.getD j 0)) (by simp [List.getD, List.getElem?_eq_getElem hj])).2
  obtain ⟨v', w', hr, g, c, rfl, h2, h3, h4⟩ := key
  unfold Oper.wp execOp
  simp only [hop, resolve, invoke, builtin, Sem.run_bind, Sem.run_pure, Result.andThen_ok, List.map_toArray, List.map_cons, List.map_nil, hs, hx, hr]
  exact hK g c w' h2 h3 h4

/-- match copies a prefix. -/
theorem match_any (w : World) (kind : Int) (ba : Option Addr) (l : List Int) (bc : Nat) (h : ByteArray) (id : Int) (hb : By w l ba bc) (hl : l.length ≤ 1000000) :
    Calls Tryz.prog 28 #[.agg #[.int .i64 kind, .slice ba l.length bc, .string h, .int .u64 id]] w fun e w' => ∃ g c, e = .returned (.agg #[.slice (some ⟨g, 0, none⟩) l.length c, .string h]) ∧ By w' l (some ⟨g, 0, none⟩) c ∧ w.heap.size ≤ g ∧ Tch [] w w' := by
  have HL := Lib.hid hl
  have HBY := Lib.hid (fun w' (t : Tch [] w w') => hb.tch t)
  have HT0 := Lib.hid (((Tch.refl [] w).alloc (.cells #[.int .i64 kind, .slice ba l.length bc, .string h, .int .u64 id] 28)).alloc (.cells #[.slice none 0 0, .string ⟨#[]⟩] 55))
  have HW0 : Hid (∀ W', Tch [w.heap.size + 2] (((w.alloc (.cells #[.int .i64 kind, .slice ba l.length bc, .string h, .int .u64 id] 28)).alloc (.cells #[.slice none 0 0, .string ⟨#[]⟩] 55)).alloc (.cells #[] 5)) W' →
      W'.cell? ⟨w.heap.size, 1, none⟩ = some (.slice ba l.length bc) ∧ W'.cell? ⟨w.heap.size, 2, none⟩ = some (.string h) ∧ W'.cell? ⟨w.heap.size + 1, 0, none⟩ = some (.slice none 0 0) ∧ W'.cell? ⟨w.heap.size + 1, 1, none⟩ = some (.string ⟨#[]⟩) ∧ W'.frozen? ⟨w.heap.size + 1, 0, none⟩ = false ∧ W'.frozen? ⟨w.heap.size + 1, 1, none⟩ = false) := Lib.hid (fun W' t => by
    have h0 : (((w.alloc (.cells #[.int .i64 kind, .slice ba l.length bc, .string h, .int .u64 id] 28)).alloc (.cells #[.slice none 0 0, .string ⟨#[]⟩] 55)).alloc (.cells #[] 5)).heap[w.heap.size]? = some (.cells #[.int .i64 kind, .slice ba l.length bc, .string h, .int .u64 id] 28) := by
      rw [heap_get_alloc, if_neg (by simp; omega), heap_get_alloc, if_neg (by simp), heap_get_alloc, if_pos rfl]
    have h1 : (((w.alloc (.cells #[.int .i64 kind, .slice ba l.length bc, .string h, .int .u64 id] 28)).alloc (.cells #[.slice none 0 0, .string ⟨#[]⟩] 55)).alloc (.cells #[] 5)).heap[w.heap.size + 1]? = some (.cells #[.slice none 0 0, .string ⟨#[]⟩] 55) := by
      rw [heap_get_alloc, if_neg (by simp), heap_get_alloc, if_pos (by simp)]
    have h0 := t.obj h0 (by simp)
    have h1 := t.obj h1 (by simp)
    exact ⟨by rw [cell_of_row W' _ 1 _ _ _ h0]; rfl, by rw [cell_of_row W' _ 2 _ _ _ h0]; rfl, by rw [cell_of_row W' _ 0 _ _ _ h1]; rfl, by rw [cell_of_row W' _ 1 _ _ _ h1]; rfl, frozen_of h1, frozen_of h1⟩)
  have HBB : Hid ((((w.alloc (.cells #[.int .i64 kind, .slice ba l.length bc, .string h, .int .u64 id] 28)).alloc (.cells #[.slice none 0 0, .string ⟨#[]⟩] 55)).alloc (.cells #[] 5)).heap[w.heap.size + 2]? = some (.cells #[] 5)) := Lib.hid (by rw [heap_get_alloc, if_pos (by simp)])
  clear hb hl
  go_enter Tryz.func28, Tryz.ntmps28
  go_upto_region 1 with (fail)
  go_region_held3 (fun w' => w'.cell? ⟨w.heap.size, 1, none⟩ = some (.slice ba l.length bc) ∧ w'.cell? ⟨w.heap.size, 2, none⟩ = some (.string h)) (go_keep)
    (first
      | (refine step_copy rfl (.tmp 3) (.tmp 5) rfl (w.heap.size + 2) (by simp [Act.eval]) ba l bc (by simp [Act.eval]) (by exact HBB.out) (HBY.out _ (by repeat (first | exact Tch.refl _ _ | refine Tch.drew ?_ | refine Tch.alloc ?_ _))) HL.out ?_
         intro g' c' w5 q1 q2 q3
         have T5 : Tch [w.heap.size + 2] _ w5 := Tch.trans (a := ((w.alloc (.cells #[.int .i64 kind, .slice ba l.length bc, .string h, .int .u64 id] 28)).alloc (.cells #[.slice none 0 0, .string ⟨#[]⟩] 55)).alloc (.cells #[] 5)) (by repeat (first | exact Tch.refl _ _ | refine Tch.drew ?_)) q3
         obtain ⟨x0, x1, y0, y1, z0, z1⟩ := HW0.out w5 T5
         have HQ1 := Lib.hid q1
         have HQ2 := Lib.hid q2
         have HQ3 := Lib.hid T5
         clear q1 q2 q3 T5))
  have HCX : Hid (((w5.setCell ⟨w.heap.size + 1, 0, none⟩ (.slice (some ⟨g', 0, none⟩) l.length c')).setCell ⟨w.heap.size + 1, 1, none⟩ (.string h)).cell? ⟨w.heap.size + 1, 0, none⟩ = some (.slice (some ⟨g', 0, none⟩) l.length c') ∧ ((w5.setCell ⟨w.heap.size + 1, 0, none⟩ (.slice (some ⟨g', 0, none⟩) l.length c')).setCell ⟨w.heap.size + 1, 1, none⟩ (.string h)).cell? ⟨w.heap.size + 1, 1, none⟩ = some (.string h)) := Lib.hid (by
    have h1 : (((w.alloc (.cells #[.int .i64 kind, .slice ba l.length bc, .string h, .int .u64 id] 28)).alloc (.cells #[.slice none 0 0, .string ⟨#[]⟩] 55)).alloc (.cells #[] 5)).heap[w.heap.size + 1]? = some (.cells #[.slice none 0 0, .string ⟨#[]⟩] 55) := by
      rw [heap_get_alloc, if_neg (by simp), heap_get_alloc, if_pos (by simp)]
    have h1 := HQ3.out.obj h1 (by simp)
    have h2 := heap_setCell_same _ _ 0 _ _ (.slice (some ⟨g', 0, none⟩) l.length c') h1
    have h3 := heap_setCell_same _ _ 1 _ _ (.string h) h2
    exact ⟨by rw [cell_of_row _ _ 0 _ _ _ h3]; rfl, by rw [cell_of_row _ _ 1 _ _ _ h3]; rfl⟩)
  have HTX : Hid (Tch [] w ((w5.setCell ⟨w.heap.size + 1, 0, none⟩ (.slice (some ⟨g', 0, none⟩) l.length c')).setCell ⟨w.heap.size + 1, 1, none⟩ (.string h)) ∧ By ((w5.setCell ⟨w.heap.size + 1, 0, none⟩ (.slice (some ⟨g', 0, none⟩) l.length c')).setCell ⟨w.heap.size + 1, 1, none⟩ (.string h)) l (some ⟨g', 0, none⟩) c') := Lib.hid (by
    have t1 : Tch [] w w5 := (HT0.out.alloc (.cells #[] 5)).then HQ3.out (fun i hi hm => by have := List.mem_singleton.1 hm; omega)
    have t2 : Tch [w.heap.size + 1] w5 ((w5.setCell ⟨w.heap.size + 1, 0, none⟩ (.slice (some ⟨g', 0, none⟩) l.length c')).setCell ⟨w.heap.size + 1, 1, none⟩ (.string h)) := ((Tch.refl _ _).setCell (p := ⟨w.heap.size + 1, 0, none⟩) (fun _ => by simp) _).setCell (p := ⟨w.heap.size + 1, 1, none⟩) (fun _ => by simp) _
    refine ⟨t1.then t2 (fun i hi hm => by have := List.mem_singleton.1 hm; omega), HQ1.out.tof (F := fun k => k = w.heap.size + 1) (Tof.of_tch t2 (fun k hk _ => by simpa using hk)) (fun ad hd e => ?_)⟩
    simp only [Option.some.injEq] at hd
    subst hd
    have := HQ2.out
    simp at e
    omega)
  generalize ((w5.setCell ⟨w.heap.size + 1, 0, none⟩ (.slice (some ⟨g', 0, none⟩) l.length c')).setCell ⟨w.heap.size + 1, 1, none⟩ (.string h)) = wf at *
  obtain ⟨hx0, hx1⟩ := HCX.out
  clear x0 x1 y0 y1 z0 z1
  go_wp2_with fail
  have HG := HQ2.out
  exact bodyPost_ret (v := .agg #[.slice (some ⟨g', 0, none⟩) l.length c', .string h]) (by simp [results, Tryz.results28, go_sem, hx0, hx1]) rfl ⟨g', c', rfl, HTX.out.2, by omega, HTX.out.1⟩

end Go.Proofs.YtcolffccbmpndaaGreatDoor

