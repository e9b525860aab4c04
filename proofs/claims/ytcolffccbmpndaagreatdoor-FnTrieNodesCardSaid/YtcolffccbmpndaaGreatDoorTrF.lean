/- (*Trie).fix, a number set. -/
import Derived.Test.YtcolffccbmpndaaGreatDoorTrB
import Derived.BigQuiet
namespace Go.Proofs.YtcolffccbmpndaaGreatDoor
open Go.RowKit Go.Deep
set_option maxRecDepth 100000

/-- On the way down: the nodes up to p are there. -/
structure Grow (wz : World) (base root : Nat) (N : Net) (p : Path) (wr : World) (N1 : Net) (r : NRec) : Prop where
  at_ : N1 p = some r
  tm : TM wr base root N1
  ct : cont N1 = growC (cont N) p
  t : Tof (fpAt N []) wz wr
  fp : ∀ b, fpAt N1 [] b → fpAt N [] b ∨ wz.heap.size ≤ b
theorem Grow.have {wz wr : World} {base root : Nat} {N N1 : Net} {p : Path} {r ch : NRec} {s : Hop} (h : Grow wz base root N p wr N1 r) (hN : N1 (p ++ [s]) = some ch) : Grow wz base root N (p ++ [s]) wr N1 ch :=
  ⟨hN, h.tm, growC_have h.ct hN, h.t, h.fp⟩
theorem Grow.link {wz wr w2 : World} {base root : Nat} {N N1 N2 : Net} {p : Path} {r c : NRec} {s : Hop} (h : Grow wz base root N p wr N1 r) (hN : N1 (p ++ [s]) = none) (hL : Linked wr base root N1 p s r c w2 N2) : Grow wz base root N (p ++ [s]) w2 N2 c := by
  refine ⟨hL.child, hL.tm, growC_new h.ct hN hL.cont, h.t.trans hL.t (fun i hi hg => ?_), fun b hb => ?_⟩
  · rcases h.fp i ⟨p, r, h.at_, hg⟩ with h1 | h1
    · exact h1
    · omega
  · rcases hL.fp b hb with h1 | h1
    · exact h.fp b h1
    · have := h.t.size; exact .inr (by omega)
theorem Grow.ids {wz wr : World} {base root : Nat} {N N1 : Net} {p : Path} {r : NRec} (h : Grow wz base root N p wr N1 r) : r.ids = (cont N p).getD [] := by
  have h1 : cont N1 p = some r.ids := cont_some.2 ⟨r, h.at_, rfl⟩
  rw [h.ct] at h1
  unfold growC at h1
  rw [if_pos (List.prefix_refl p)] at h1
  exact (Option.some.inj h1).symm
theorem Grow.done {w wz wr w2 : World} {base tb root : Nat} {N N1 N2 : Net} {p : Path} {r : NRec} {id : Int} (hA : TrAt w base tb root N) (h0 : Tch [] w wz) (h : Grow wz base root N p wr N1 r) (hT : Turned wr base root N1 p r (r.ids ++ [id]) w2 N2) : Went w base tb root N (addC (cont N) p id) w2 N2 := by
  have t1 : Tof (fpAt N []) wz w2 := h.t.trans hT.t (fun i hi hg => by
    rcases h.fp i ⟨p, r, h.at_, hg⟩ with h1 | h1
    · exact h1
    · omega)
  have t2 : Tof (fpAt N []) w w2 := (Tof.of_tch (F := fpAt N []) h0 (by simp)).trans t1 (fun _ _ h => h)
  refine ⟨⟨hT.tm, t2.obj hA.top hA.free, hA.lo⟩, ?_, t2, fun k hk => ?_⟩
  · rw [hT.cont, addC_of_grow, h.ids]
    funext q
    by_cases e : q = p
    · rw [if_pos e, if_pos e]
    · rw [if_neg e, if_neg e, h.ct]
  · rcases hT.fp k hk with h1 | h1
    · exact (h.fp k h1).imp (fun h2 => h2) (fun h2 => Nat.le_trans h0.size h2)
    · exact .inr (Nat.le_trans h0.size (Nat.le_trans h.t.size h1))
theorem frozen_of {w : World} {b j : Nat} {cs : Array Value} {t : TypeId} (h : w.heap[b]? = some (.cells cs t (0, 0))) : w.frozen? ⟨b, j, none⟩ = false := by
  simp only [World.frozen?, h]
  first | rfl | simp | (simp; omega)

theorem zero_ptr (w : World) : (zeroValue 71).run Tryz.prog w = .ok (.pointer none) w := Tryz.zeroValue71 w

set_option maxHeartbeats 4000000 in
theorem fixSet_any (w : World) (base tb root : Nat) (N : Net) (hA : TrAt w base tb root N) (l : List Int) (a : Option Addr) (c : Nat) (hP : By w l a c) (hX : ∀ ad, a = some ad → ¬ fpAt N [] ad.block) (hll : l.length ≤ 1000000)
    (tx : List UInt8) (hl : tx.length ≤ 1000000) (ht : Tabs w) (hsm : ∀ p ∈ splitB 44 (trimS tx), smallI p) (n : Nat) (f : Nat → Bool) (hp : parseP tx = some (n, f)) (id : Int) (hcap : ∀ ids, cont N (pathOf f l) = some ids → ids.length < 10000000) :
    Calls Tryz.prog 41 #[.pointer (some ⟨tb, 0, none⟩), .agg #[.slice a l.length c, .string (bs tx)], .int .u64 id, .int .i64 0] w fun e w' => e = .returned .nilIface ∧ ∃ N', Went w base tb root N (addC (cont N) (pathOf f l) id) w' N' := by
  have HPA := Lib.hid (fun (w' : World) (t : Tch [] w w') => parse_any tx w' hl (ht.tch t) hsm)
  rw [hp] at HPA
  obtain ⟨i0, hinf, hz0, hz1, hz2⟩ := info_parts Tryz.infoBool
  have HAP := Lib.hid (fun (w0 wr : World) (v : Value) (n : Nat) (xs : List Value) (h : Own w0 wr 4 1 v n xs) (hn : n ≤ 100000000) => own_app (ty := 36) Tryz.underlying36 hinf hz0 hz1 hz2 rfl (by decide) (by decide) #[.bool false] h hn rfl (by simp [Value.oneCell']))
  have HTA0 := Lib.hid hA
  have HBY := Lib.hid hP
  have HX := Lib.hid hX
  have HLL := Lib.hid hll
  have HCAP := Lib.hid hcap
  have hlI : (l.length : Int) ≤ 1000000 := by omega
  have hct : w.cell? ⟨tb, 0, none⟩ = some (ptr root) := by rw [cell_of_row w tb 0 _ _ _ hA.top]; rfl
  have htb := lt_of_obj hA.top
  have HT0 := Lib.hid ((Tch.refl [] w).alloc (.cells #[.slice a l.length c, .string (bs tx)] 55))
  clear hinf hz0 hz1 hz2 hA hP hX hll hcap ht hsm hp hl
  go_enter Tryz.func41, Tryz.ntmps41
  go_wp2_with fail
  refine (HPA.out _ HT0.out).mono ?_
  rintro e w1 ⟨ia, ic, n', f', err, rfl, h1, h2, h3, h4⟩
  rcases h4 with ⟨h4, rfl⟩ | ⟨h4, -⟩
  rotate_left
  · simp at h4
  simp only [Option.some.injEq, Prod.mk.injEq] at h4
  obtain ⟨rfl, rfl⟩ := h4
  have HO1 := Lib.hid h1
  have HN := Lib.hid h2
  have HTF := Lib.hid h3
  have HBX : Hid (∀ w' : World, Tch [] (w.alloc (.cells #[.slice a l.length c, .string (bs tx)] 55)) w' → w'.cell? ⟨w.heap.size, 0, none⟩ = some (.slice a l.length c)) := Lib.hid (fun w' t => by
    refine cell_tch (w := w.alloc (.cells #[.slice a l.length c, .string (bs tx)] 55)) ?_ t
    rw [cell_of_row _ _ _ _ _ _ (heap_alloc_new w _)]
    rfl)
  have hni : (n : Int) ≤ 10000 := by omega
  clear h1 h2 h3 hct HPA
  go_wp2_with fail
  go_loopg [10] (l.length - n) (fun nn s10 wz => ∃ (n' : Nat) (a' : Option Addr) (c' : Nat), n ≤ n' ∧ n' ≤ max n l.length ∧ nn = l.length - n' ∧ s10 = .slice a' n' c' ∧ Hid (Own (w.alloc (.cells #[.slice a l.length c, .string (bs tx)] 55)) wz 4 1 (.slice a' n' c') n' (bl n' f)))
  case atStart => exact ⟨n, ia, ic, Nat.le_refl _, Nat.le_max_left _ _, rfl, rfl, HO1.out⟩
  case round =>
    obtain ⟨n', a', c', hn1, hn2, rfl, rfl, HZ⟩ := hrel
    rename World => wz
    have hbx := HBX.out wz HZ.out.t
    have hn6 : (n' : Int) ≤ 1000000 := by omega
    by_cases hlt : n' < l.length
    · have hlt2 : (n' : Int) < (l.length : Int) := by omega
      have HLT := Lib.hid (⟨hlt, hn1⟩ : _ ∧ _)
      have HA1 := Lib.hid (HAP.out _ _ _ _ _ HZ.out (by omega))
      have HFN := Lib.hid (HTF.out n' hn1)
      clear hlt hn1 hn2 HZ
      go_wp2_with (at_builtin; refine wpList_append_run rfl (.tmp 37) (.tmp 38) 36 rfl (.slice a' n' c') (.slice (some ⟨wz.heap.size, 0, none⟩) 1 1) (by simp [Act.eval]) (by simp [Act.eval]) _ HA1.out ?_; rintro vv w7 ⟨g7, c7, rfl, n1, n2, n3, n4, n5⟩; have HN1 := Lib.hid n1; clear n1 n2 n3 n4 n5)
      go_roundg (l.length - (n' + 1))
      case rel =>
        obtain ⟨h1, h2⟩ := HLT.out
        exact ⟨n' + 1, _, _, by omega, by omega, rfl, rfl, by rw [bl_succ, HFN.out]; exact HN1.out⟩
      case measure => obtain ⟨h1, h2⟩ := HLT.out; omega
    · have hge : (l.length : Int) ≤ (n' : Int) := by omega
      have HGE := Lib.hid (show l.length ≤ n' by omega)
      have HTW := Lib.hid (HT0.out.trans HZ.out.t)
      have HTA := Lib.hid (HTA0.out.tch HTW.out)
      have HBY := Lib.hid (HBY.out.tch HTW.out)
      have HIC : Hid (0 < l.length → ∃ g, a' = some ⟨g, 0, none⟩ ∧ ¬ fpAt N [] g ∧ g < wz.heap.size ∧ ∀ j, j < l.length → wz.cell? ⟨g, j, none⟩ = some (.bool (f j))) := Lib.hid (fun h0 => by
        obtain ⟨g, rfl, h1, h2, h3⟩ := HZ.out.rowCell (by have := HGE.out; omega)
        have hgl := (HZ.out.row.lt g rfl).2
        refine ⟨g, rfl, fun hf => ?_, hgl, fun j hj => h2 j _ (by unfold bl; simp [show j < n' by have := HGE.out; omega])⟩
        have := (HTA0.out.tm.fp_lt hf).2
        simp at h1
        omega)
      obtain ⟨r0, hr0, hrb⟩ := HTA.out.tm.root
      have HR0 := Lib.hid hr0
      subst hrb
      have hgd : decide (n' < l.length) = false := decide_eq_false hlt
      clear hlt hn1 hn2 hr0 HZ HBX
      go_wp2_with fail
      clear hbx hge hgd hn6
      go_loopg [9, 43] l.length (fun nn s9 s43 wr => ∃ (k : Nat) (N1 : Net) (r : NRec), k ≤ l.length ∧ nn = l.length - k ∧ s9 = ptr r.blk ∧ s43 = .int .i64 k ∧ Hid (Grow wz base r0.blk N ((pathOf f l).take k) wr N1 r))
      case atStart =>
        refine ⟨0, N, r0, Nat.zero_le _, rfl, rfl, rfl, ⟨HR0.out, HTA.out.tm, ?_, Tof.refl _ _, fun b hb => .inl hb⟩⟩
        rw [List.take_zero, growC_nil (cont_ne.2 (by rw [HR0.out]; simp))]
      case round =>
        obtain ⟨k, N1, r, hk, rfl, rfl, rfl, HW⟩ := hrel
        rename World => wr
        by_cases hlt : k < l.length
        · have HLT := Lib.hid hlt
          have hlt2 : (k : Int) < (l.length : Int) := by omega
          obtain ⟨gI, rfl, h1, h2, h3⟩ := HIC.out (by omega)
          have hci := cell_tof (h3 k hlt) HW.out.t h1
          obtain ⟨ad, rfl⟩ : ∃ ad, a = some ad := by
            cases a with
            | some ad => exact ⟨ad, rfl⟩
            | none => have := (HBY.out.nil rfl).2; rw [this] at hlt; simp at hlt
          have hcb := cell_tof (HBY.out.cell ad rfl k hlt).2 HW.out.t (by rw [add_block]; exact HX.out ad rfl)
          have hnd := HW.out.tm.node _ _ HW.out.at_
          have HND := Lib.hid hnd
          have hc0 : wr.cell? ⟨r.blk, 0, none⟩ = some (.map (some r.mb)) := by rw [cell_of_row wr r.blk 0 _ _ _ hnd.cells]; rfl
          have hc1 : wr.cell? ⟨r.blk, 1, none⟩ = some (ptrO (N1 ((pathOf f l).take k ++ [none]))) := by rw [cell_of_row wr r.blk 1 _ _ _ hnd.cells]; rfl
          have HPT := Lib.hid (pathOf_take f l hlt)
          have hkn : (k : Int) < (n' : Int) := by have := HGE.out; omega
          clear h1 h2 h3 hk hlt
          cases hfk : f k with
          | true =>
            rw [hfk] at hci
            have HHOP := Lib.hid (show hopAt f l k = none by unfold hopAt; rw [hfk]; rfl)
            cases hN : N1 ((pathOf f l).take k ++ [none]) with
            | some ch =>
              rw [hN] at hc1
              simp only [ptrO] at hc1
              have HG := Lib.hid (HW.out.have hN)
              clear hnd hN hfk
              go_wp2_with fail
              go_roundg (l.length - (k + 1))
              case rel => exact ⟨k + 1, N1, ch, by have := HLT.out; omega, rfl, rfl, by go_num, by rw [HPT.out, HHOP.out]; exact HG.out⟩
              case measure => have := HLT.out; omega
            | none =>
              rw [hN] at hc1
              simp only [ptrO] at hc1
              have HNN := Lib.hid hN
              have HFZ := Lib.hid (fun w' (t : Tch [] wr w') => frozen_of (j := 1) (t.obj hnd.cells (by simp)))
              clear hnd hN hfk
              go_wp2_with fail
              refine (newNode_any _).mono ?_
              rintro e wn ⟨g, cn, rfl, hnn⟩
              obtain ⟨N2, hL⟩ := link_none HW.out.tm HW.out.at_ HNN.out hnn
              have HG := Lib.hid (HW.out.link HNN.out hL)
              have hfz := HFZ.out wn hnn.t
              have hcn := cell_tch hc1 hnn.t
              have HB := Lib.hid hnn.blk
              clear hnn hL HNN HFZ
              go_wp2_with fail
              go_roundg (l.length - (k + 1))
              case rel => exact ⟨k + 1, N2, cn, by have := HLT.out; omega, rfl, by rw [HB.out], by go_num, by rw [HPT.out, HHOP.out]; exact HG.out⟩
              case measure => have := HLT.out; omega
          | false =>
            rw [hfk] at hci
            have hhop : hopAt f l k = some (l.getD k 0) := by unfold hopAt; rw [hfk]; rfl
            generalize l.getD k 0 = bt at *
            have HHOP := Lib.hid hhop
            have hlk := hnd.map.lookup (P := Tryz.prog) (k := 5) (t := 84) (e := 71) Tryz.underlying5 Tryz.underlying84 (zero_ptr wr) bt
            rw [hnd.ch bt] at hlk
            cases hN : N1 ((pathOf f l).take k ++ [some bt]) with
            | some ch =>
              rw [hN] at hlk
              simp only [Option.map_some, Option.getD_some] at hlk
              have HG := Lib.hid (HW.out.have hN)
              clear hnd hN hfk hhop
              go_wp2_with fail
              go_roundg (l.length - (k + 1))
              case rel => exact ⟨k + 1, N1, ch, by have := HLT.out; omega, rfl, rfl, by go_num, by rw [HPT.out, HHOP.out]; exact HG.out⟩
              case measure => have := HLT.out; omega
            | none =>
              rw [hN] at hlk
              simp only [Option.map_none, Option.getD_none] at hlk
              have HNN := Lib.hid hN
              clear hnd hN hfk hhop
              go_wp2_with fail
              refine (newNode_any _).mono ?_
              rintro e wn ⟨g, cn, rfl, hnn⟩
              have HLS := Lib.hid (link_some HW.out.tm HW.out.at_ HNN.out hnn)
              have hcn := cell_tch hc0 hnn.t
              have HB := Lib.hid hnn.blk
              clear hnn hlk hc0
              go_wp2_with (at_mapUpdate; refine wpList_mapUpdate_run rfl _ _ _ 84 rfl _ _ _ rfl rfl rfl _ HLS.out ?_; rintro w5 ⟨N2, hL⟩; have HL := Lib.hid hL; clear hL)
              go_roundg (l.length - (k + 1))
              case rel => exact ⟨k + 1, N2, cn, by have := HLT.out; omega, rfl, by rw [HB.out], by go_num, by rw [HPT.out, HHOP.out]; exact HW.out.link HNN.out HL.out⟩
              case measure => have := HLT.out; omega
        · obtain rfl : k = l.length := by omega
          have hG := HW.out
          rw [List.take_of_length_le (by rw [pathOf_len]; exact Nat.le_refl _)] at hG
          have HG := Lib.hid hG
          have hnd := hG.tm.node _ _ hG.at_
          obtain ⟨k1, k2, k3⟩ := hnd.kinds hnd
          obtain ⟨av, cv, hv⟩ := ownsRow_slice hnd.row
          have hc2 : wr.cell? ⟨r.blk, 2, none⟩ = some r.v := by rw [cell_of_row wr r.blk 2 _ _ _ hnd.cells]; rfl
          have hidl : r.ids.length < 10000000 := by
            rw [hG.ids]
            cases hC : cont N (pathOf f l) with
            | none => simp
            | some ids => exact HCAP.out ids hC
          have hra := row_app (.int .u64 id) hnd.row hG.tm.size (by omega) rfl
          have HST : Hid (∀ (w7 : World) (g7 c7 : Nat), w7.ownsRow base 26 1 (.slice (some ⟨g7, 0, none⟩) (r.ids.length + 1) c7) (r.ids.length + 1) (uV r.ids ++ [.int .u64 id]) → Tch r.v.ownBlock.toList wr w7 → (some g7 = r.v.ownBlock ∨ wr.heap.size < g7) →
              w7.cell? ⟨r.blk, 2, none⟩ = some r.v ∧ w7.frozen? ⟨r.blk, 2, none⟩ = false ∧ ∃ N', Went w base tb r0.blk N (addC (cont N) (pathOf f l) id) (w7.setCell ⟨r.blk, 2, none⟩ (.slice (some ⟨g7, 0, none⟩) (r.ids.length + 1) c7)) N') := Lib.hid (fun w7 g7 c7 q1 q2 q3 => by
            have hb : r.blk ∉ r.v.ownBlock.toList := by simpa [Option.mem_toList] using k2
            refine ⟨?_, frozen_of (q2.obj hnd.cells hb), ?_⟩
            · rw [q2.cell (World.block_lt_of_cell? wr _ hc2) hb]; exact hc2
            · obtain ⟨N', hT⟩ := turned_of (l := r.ids ++ [id]) hG.tm hG.at_ q2 (by simp; omega) (by simpa [uV] using q1) (fun g hg => by
                simp only [Value.ownBlock, Option.some.injEq] at hg
                subst hg
                rcases q3 with q3 | q3
                · exact .inl q3.symm
                · exact .inr (by omega))
              have hT' : Turned wr base r0.blk N1 (pathOf f l) r (r.ids ++ [id]) (w7.setCell ⟨r.blk, 2, none⟩ (.slice (some ⟨g7, 0, none⟩) (r.ids.length + 1) c7)) N' := by simpa using hT
              exact ⟨N', hG.done HTA0.out HTW.out hT'⟩)
          rw [hv] at hc2 hra HST
          have HRA := Lib.hid hra
          clear hra hnd k1 k2 k3 hv hidl hk hlt hG
          go_wp2_with (at_builtin; refine wpList_append_run rfl (.tmp 90) (.tmp 92) 31 rfl (.slice av r.ids.length cv) (.slice (some ⟨wr.heap.size, 0, none⟩) 1 1) (by simp [Act.eval]) (by simp [Act.eval]) _ HRA.out ?_; rintro vv w7 ⟨g7, c7, rfl, q1, q2, q3⟩; obtain ⟨hcx, hfx, hWx⟩ := HST.out w7 g7 c7 q1 q2 q3; have HWX := Lib.hid hWx; clear q1 q2 q3 hWx)
          go_ret
          exact ⟨rfl, HWX.out⟩

end Go.Proofs.YtcolffccbmpndaaGreatDoor
