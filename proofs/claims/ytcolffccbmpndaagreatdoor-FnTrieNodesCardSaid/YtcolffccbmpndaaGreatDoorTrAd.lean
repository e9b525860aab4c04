/- adds; rows of steps. -/
import Derived.Test.YtcolffccbmpndaaGreatDoorTrGu
namespace Go.Proofs.YtcolffccbmpndaaGreatDoor
open Go.RowKit Go.Deep
set_option maxRecDepth 100000

/-- Steps with the slices of their bytes. -/
def VAt (w : World) (sa : Option Addr) (V : List StepV) : Prop := ∀ i x, V[i]? = some x → ∃ a, sa = some a ∧ (w.cell? (a.add (i * 4)) = some (.int .i64 x.s.kind) ∧ w.cell? ⟨(a.add (i * 4)).block, (a.add (i * 4)).off + 1, none⟩ = some (.slice x.a x.s.bytes.length x.c) ∧ w.cell? ⟨(a.add (i * 4)).block, (a.add (i * 4)).off + 2, none⟩ = some (.string (bs x.s.holes)) ∧ w.cell? ⟨(a.add (i * 4)).block, (a.add (i * 4)).off + 3, none⟩ = some (.int .u64 x.s.id)) ∧ By w x.s.bytes x.a x.c
theorem VAt.tch {w w' : World} {sa : Option Addr} {V : List StepV} (h : VAt w sa V) (t : Tch [] w w') : VAt w' sa V := by
  intro i x hx
  obtain ⟨a, ha, ⟨h0, h1, h2, h3⟩, hb⟩ := h i x hx
  exact ⟨a, ha, ⟨cell_tch h0 t, cell_tch h1 t, cell_tch h2 t, cell_tch h3 t⟩, hb.tch t⟩
theorem StepsAt.v {w : World} {sa : Option Addr} {L : List StepD} (h : StepsAt w sa L) : ∃ V : List StepV, V.map (·.s) = L ∧ VAt w sa V := by
  have one : ∀ i, i < L.length → ∃ x : Option Addr × Nat, ∃ a, sa = some a ∧ (w.cell? (a.add (i * 4)) = some (.int .i64 (L.getD i default).kind) ∧ w.cell? ⟨(a.add (i * 4)).block, (a.add (i * 4)).off + 1, none⟩ = some (.slice x.1 (L.getD i default).bytes.length x.2) ∧ w.cell? ⟨(a.add (i * 4)).block, (a.add (i * 4)).off + 2, none⟩ = some (.string (bs (L.getD i default).holes)) ∧ w.cell? ⟨(a.add (i * 4)).block, (a.add (i * 4)).off + 3, none⟩ = some (.int .u64 (L.getD i default).id)) ∧ By w (L.getD i default).bytes x.1 x.2 := fun i hi => by
    obtain ⟨a, ha, hs⟩ := h i hi
    obtain ⟨ba, bc, h0, h1, h2, h3, hb⟩ := hs.all
    exact ⟨(ba, bc), a, ha, ⟨h0, h1, h2, h3⟩, hb⟩
  obtain ⟨f, hf⟩ := choose_lt one
  refine ⟨(List.range L.length).map (fun i => ⟨L.getD i default, (f i).1, (f i).2⟩), ?_, fun i x hx => ?_⟩
  · rw [List.map_map]
    apply List.ext_getElem (by simp)
    intro i h1 h2
    simp [List.getD, List.getElem?_eq_getElem h2]
  · have hi : i < L.length := by have := (List.getElem?_eq_some_iff.1 hx).1; simpa using this
    rw [List.getElem?_map, List.getElem?_range hi] at hx
    simp only [Option.map_some, Option.some.injEq] at hx
    subst hx
    exact hf i hi

/-- A row of steps of one's own. -/
structure RowV (w0 w : World) (a : Option Addr) (c : Nat) (V : List StepV) : Prop where
  own : Own w0 w 28 4 (.slice a V.length c) V.length (V.flatMap stC)
  by0 : ∀ x ∈ V, By w0 x.s.bytes x.a x.c
theorem RowV.by_ {w0 w : World} {a : Option Addr} {c : Nat} {V : List StepV} (h : RowV w0 w a c V) : ∀ x ∈ V, By w x.s.bytes x.a x.c := fun x hx => (h.by0 x hx).tch h.own.t
theorem RowV.at_ {w0 w : World} {a : Option Addr} {c : Nat} {V : List StepV} (h : RowV w0 w a c V) {i : Nat} {x : StepV} (hx : V[i]? = some x) : ∃ g, a = some ⟨g, 0, none⟩ ∧ g < w.heap.size ∧ ∀ j, j < 4 → w.cell? ⟨g, i * 4 + j, none⟩ = (stC x)[j]? := by
  have hi : i < V.length := (List.getElem?_eq_some_iff.1 hx).1
  have hrow := h.own.row
  obtain ⟨g, cap, e, -, hg⟩ := ownsRow_value hrow (by omega)
  simp only [Value.slice.injEq, true_and] at e
  obtain ⟨rfl, rfl⟩ := e
  refine ⟨g, rfl, hg, fun j hj => ?_⟩
  rw [hrow.cellAt (i * 4 + j) (by omega)]
  exact flat_at stC 4 (fun _ => rfl) V i j x hx hj
theorem RowV.steps {w0 w : World} {a : Option Addr} {c : Nat} {V : List StepV} (h : RowV w0 w a c V) : StepsAt w a (V.map (·.s)) := by
  by_cases h0 : V = []
  · subst h0; intro i hi; simp at hi
  · obtain ⟨x, r, hV⟩ := List.exists_cons_of_ne_nil h0
    obtain ⟨g, rfl, hg, -⟩ := h.at_ (i := 0) (x := x) (by rw [hV]; rfl)
    refine steps_of hg (fun i x hx j hj => ?_) h.by_
    obtain ⟨g', e, -, hc⟩ := h.at_ hx
    simp only [Option.some.injEq, Addr.mk.injEq, and_true] at e
    subst e
    exact hc j hj
theorem RowV.tch {w0 w w' : World} {a : Option Addr} {c : Nat} {V : List StepV} (h : RowV w0 w a c V) (t : Tch [] w w') : RowV w0 w' a c V := ⟨h.own.tch t, h.by0⟩
theorem RowV.nil (w0 w : World) (t : Tch [] w0 w) : RowV w0 (w.alloc (.cells #[] 28)) (some ⟨w.heap.size, 0, none⟩) 0 [] := ⟨Own.new t _ _, by simp⟩

theorem Tryz.infoStep : (Tryz.prog.info? 28).map (fun i => (i.zero, i.size, i.bytes)) = some (some (.agg #[.int .i64 0, .slice none 0 0, .string ⟨#[]⟩, .int .u64 0]), 4, 56) := by kernel_rfl
/-- A step more. -/
theorem RowV.app {w0 w : World} {a : Option Addr} {c : Nat} {V : List StepV} (h : RowV w0 w a c V) (x : StepV) (hb : By w0 x.s.bytes x.a x.c) (hl : V.length ≤ 10000) :
    ∃ v' w', (Builtin.append_ #[22, 22] 22 #[.slice a V.length c, .slice (some ⟨w.heap.size, 0, none⟩) 1 1]).run Tryz.prog (w.alloc (.cells #[.int .i64 x.s.kind, .slice x.a x.s.bytes.length x.c, .string (bs x.s.holes), .int .u64 x.s.id] 28)) = .ok v' w' ∧ ∃ g c', v' = .slice (some ⟨g, 0, none⟩) (V.length + 1) c' ∧ RowV w0 w' (some ⟨g, 0, none⟩) c' (V ++ [x]) := by
  obtain ⟨i0, hinf, hz0, hz1, hz2⟩ := info_parts Tryz.infoStep
  obtain ⟨v', w', hr, g, c', rfl, ho, -, -, ht, hg⟩ := own_app (ty := 22) Tryz.underlying22 hinf hz0 hz1 hz2 rfl (by decide) (by decide) #[.int .i64 x.s.kind, .slice x.a x.s.bytes.length x.c, .string (bs x.s.holes), .int .u64 x.s.id] h.own (by omega) rfl (by intro z hz; simp only [List.mem_cons, List.not_mem_nil, or_false] at hz; rcases hz with rfl | rfl | rfl | rfl <;> rfl)
  refine ⟨_, w', hr, g, c', rfl, ⟨?_, fun y hy => ?_⟩⟩
  · rw [List.length_append, List.length_singleton, List.flatMap_append]
    exact ho
  · rcases List.mem_append.1 hy with hy | hy
    · exact h.by0 y hy
    · rw [List.mem_singleton.1 hy]; exact hb

def isAdd (x : StepV) : Bool := decide (x.s.kind = 0) || decide (x.s.kind = 1)
set_option maxHeartbeats 4000000 in
theorem adds_any (w : World) (V : List StepV) (sa : Option Addr) (cz : Nat) (hV : VAt w sa V) (hl : V.length ≤ 1000) :
    Calls Tryz.prog 15 #[.slice sa V.length cz] w fun e w' => ∃ a c, e = .returned (.slice a (V.filter isAdd).length c) ∧ RowV w w' a c (V.filter isAdd) := by
  have HV := Lib.hid (fun w' (t : Tch [] w w') => hV.tch t)
  have HV0 := Lib.hid hV
  have HL := Lib.hid hl
  have hlI : (V.length : Int) ≤ 1000 := by omega
  have HN := Lib.hid (RowV.nil w w (Tch.refl [] w))
  clear hV hl
  go_enter Tryz.func15, Tryz.ntmps15
  go_wp2_with fail
  go_loopg [3, 9] V.length (fun nn s3 s9 wr => ∃ (i n : Nat) (a : Option Addr) (c : Nat), i ≤ V.length ∧ nn = V.length - i ∧ s3 = .slice a n c ∧ s9 = .int .i64 i ∧ Hid (RowV w wr a c ((V.take i).filter isAdd) ∧ n = ((V.take i).filter isAdd).length))
  case atStart => exact ⟨0, 0, _, _, Nat.zero_le _, rfl, rfl, rfl, HN.out, rfl⟩
  case round =>
    obtain ⟨i, n, a, c, hi, rfl, rfl, rfl, HZ⟩ := hrel
    rename World => wr
    by_cases hlt : i < V.length
    · have HLT := Lib.hid hlt
      have hlt2 : (i : Int) < (V.length : Int) := by omega
      have hx : V[i]? = some V[i] := List.getElem?_eq_getElem hlt
      have htk : V.take (i + 1) = V.take i ++ [V[i]] := List.take_succ_eq_append_getElem hlt
      generalize V[i] = x at *
      obtain ⟨ad, rfl, ⟨x0, x1, x2, x3⟩, -⟩ := HV.out wr HZ.out.1.own.t i x hx
      obtain ⟨-, -, -, hb0⟩ := HV0.out i x hx
      have HFT : Hid ((V.take (i + 1)).filter isAdd = (V.take i).filter isAdd ++ if isAdd x then [x] else []) := Lib.hid (by
        rw [htk, List.filter_append]
        congr 1
        by_cases h : isAdd x = true <;> simp [h])
      have hnl : n ≤ 1000 := by
        rw [HZ.out.2]
        have h1 := List.length_filter_le isAdd (V.take i)
        rw [List.length_take] at h1
        have := HL.out
        omega
      have HTA := Lib.hid ((Tch.refl [] wr).alloc (.cells #[.int .i64 x.s.kind, .slice x.a x.s.bytes.length x.c, .string (bs x.s.holes), .int .u64 x.s.id] 28))
      have HRA := Lib.hid ((HZ.out.1.tch HTA.out).app x hb0 (by rw [← HZ.out.2]; omega))
      rw [← HZ.out.2] at HRA
      have hab : isAdd x = (decide (x.s.kind = 0) || decide (x.s.kind = 1)) := rfl
      have HRS := Lib.hid HZ.out
      obtain ⟨⟨kd, bytes, holes, id⟩, xa, xc⟩ := x
      simp only [] at x0 x1 x2 x3 HRA HTA hab
      clear hx htk hlt hi hb0 HZ
      by_cases h0 : kd = 0 ∨ kd = 1
      · have HF2 : Hid ((V.take (i + 1)).filter isAdd = (V.take i).filter isAdd ++ [⟨⟨kd, bytes, holes, id⟩, xa, xc⟩]) := Lib.hid (by
          rw [HFT.out, if_pos (by rw [hab]; rcases h0 with h | h <;> simp [h])])
        clear hab
        rcases h0 with rfl | rfl
        all_goals
          go_wp2_with (at_builtin; refine wpList_append_run rfl (.tmp 21) (.tmp 23) 22 rfl (.slice a n c) (.slice (some ⟨wr.heap.size + 1, 0, none⟩) 1 1) (by simp [Act.eval]) (by simp [Act.eval]) _ (by simpa using HRA.out) ?_; rintro vv w7 ⟨g7, c7, rfl, n1⟩; have HN1 := Lib.hid n1; clear n1)
          go_roundg (V.length - (i + 1))
          case rel => exact ⟨i + 1, n + 1, _, _, HLT.out, rfl, rfl, by go_num, by rw [HF2.out]; exact HN1.out, by rw [HF2.out, List.length_append, List.length_singleton, ← HRS.out.2]⟩
          case measure => have := HLT.out; omega
      · have HF2 : Hid ((V.take (i + 1)).filter isAdd = (V.take i).filter isAdd) := Lib.hid (by
          rw [HFT.out, if_neg (by rw [hab]; simp; exact ⟨fun h => h0 (.inl h), fun h => h0 (.inr h)⟩), List.append_nil])
        have b0 : (kd == 0) = false := beq_eq_false_iff_ne.2 (fun h => h0 (.inl h))
        have b1 : (kd == 1) = false := beq_eq_false_iff_ne.2 (fun h => h0 (.inr h))
        clear hab h0
        go_wp2_with fail
        go_roundg (V.length - (i + 1))
        case rel => exact ⟨i + 1, n, _, _, HLT.out, rfl, rfl, by go_num, by rw [HF2.out]; exact HRS.out.1.tch HTA.out, by rw [HF2.out]; exact HRS.out.2⟩
        case measure => have := HLT.out; omega
    · obtain rfl : i = V.length := by omega
      have hz := HZ.out
      rw [List.take_length] at hz
      obtain ⟨z1, rfl⟩ := hz
      have HZ1 := Lib.hid z1
      clear z1 hlt hi HZ
      go_wp2_with fail
      go_ret
      exact ⟨a, c, rfl, HZ1.out⟩

end Go.Proofs.YtcolffccbmpndaaGreatDoor
