/- FnMarkSet returns true for every mark and every index: a mark that is set on a new water mark is the mark, from which one goes on. No condition. -/
import Derived.Test.YtaheafmdkbobcaaSetP
import Derived.Test.YtaheafmdkbobcaaRows
import Derived.WalkKit
import Derived.ProofKit
import Derived.OpenShut
import Derived.ShutString
namespace Go.Proofs.Ytaheafmdkbobcaa.fnMarkSet
open Go.ChangeShapes Go.WideShapes Go.ChangeAt Go.RowKit
open Go.ChangeMaps (open_string shut_string)
set_option linter.unusedVariables false      -- a walk need not use every 'w<i>' (that an integer argument fits its kind)

theorem own : ownKnob Try.prog.godebug = none := by kernel_rfl

/-- What is read. -/
theorem read {m i : Int} {w0 w : World} {ov : Value} {outs : List (TR × Value)} (h : OutAt w0 w ov outs) (ho : outs.map Prod.fst = [⟨m, 0, 0, 0, []⟩, ⟨m, 0, 0, 0, [true]⟩, ⟨m, i, 1, 0, [true]⟩, ⟨m, i, 1, 1, [true, false]⟩, ⟨i, i, 0, 0, [true, true]⟩]) :
    ∃ g c d1 c1 d3 c3 d4 c4, ov = .slice (some ⟨g, 0, none⟩) 5 c ∧ w.cell? ⟨g, 0, none⟩ = some (.int .u64 m) ∧ w.cell? ⟨g, 1, none⟩ = some (.int .u64 0) ∧ w.cell? ⟨g, 9, none⟩ = some (.slice (some ⟨d1, 0, none⟩) 1 c1) ∧ w.cell? ⟨d1, 0, none⟩ = some (.bool true) ∧
      w.cell? ⟨g, 10, none⟩ = some (.int .u64 m) ∧ w.cell? ⟨g, 11, none⟩ = some (.int .u64 i) ∧ w.cell? ⟨g, 19, none⟩ = some (.slice (some ⟨d3, 0, none⟩) 2 c3) ∧ w.cell? ⟨d3, 1, none⟩ = some (.bool false) ∧ w.cell? ⟨g, 20, none⟩ = some (.int .u64 i) ∧
      w.cell? ⟨g, 24, none⟩ = some (.slice (some ⟨d4, 0, none⟩) 2 c4) ∧ w.cell? ⟨d4, 1, none⟩ = some (.bool true) := by
  have hl : outs.length = 5 := by have := congrArg List.length ho; simpa using this
  obtain ⟨g, c, rfl⟩ := h.shape (by omega)
  rw [hl] at h ⊢
  match outs, hl with
  | [p0, p1, p2, p3, p4], _ =>
    simp only [List.map_cons, List.map_nil, List.cons.injEq, and_true] at ho
    obtain ⟨e0, e1, e2, e3, e4⟩ := ho
    have hc := fun (i : Nat) (p : TR × Value) (hp : [p0, p1, p2, p3, p4][i]? = some p) (j : Nat) (hj : j < 5) => h.cell rfl hp hj
    obtain ⟨a1, c1, v1, b1⟩ := h.done (p := p1) (by simp)
    obtain ⟨a3, c3, v3, b3⟩ := h.done (p := p3) (by simp)
    obtain ⟨a4, c4, v4, b4⟩ := h.done (p := p4) (by simp)
    rw [e1] at v1 b1
    rw [e3] at v3 b3
    rw [e4] at v4 b4
    obtain ⟨d1, rfl, f1⟩ := b1 0 true rfl
    obtain ⟨d3, rfl, f3⟩ := b3 1 false rfl
    obtain ⟨d4, rfl, f4⟩ := b4 1 true rfl
    refine ⟨g, c, d1, c1, d3, c3, d4, c4, rfl, ?_, ?_, ?_, f1, ?_, ?_, ?_, f3, ?_, ?_, f4⟩
    · have := hc 0 p0 rfl 0 (by omega); simpa [outCells, e0] using this
    · have := hc 0 p0 rfl 1 (by omega); simpa [outCells, e0] using this
    · have := hc 1 p1 rfl 4 (by omega); simpa [outCells, v1] using this
    · have := hc 2 p2 rfl 0 (by omega); simpa [outCells, e2] using this
    · have := hc 2 p2 rfl 1 (by omega); simpa [outCells, e2] using this
    · have := hc 3 p3 rfl 4 (by omega); simpa [outCells, v3] using this
    · have := hc 4 p4 rfl 0 (by omega); simpa [outCells, e4] using this
    · have := hc 4 p4 rfl 4 (by omega); simpa [outCells, v4] using this

abbrev lit (m i : Int) : Obj := .cells #[.int .i64 5, .int .u64 m, .slice none 0 0, .int .i64 4, .int .u64 m, .slice none 0 0, .int .i64 0, .int .u64 i, .slice none 0 0, .int .i64 4, .int .u64 i, .slice none 0 0, .int .i64 2, .int .u64 i, .slice none 0 0] 31

theorem call (m i : Int) (w : World) (h0 : 0 ≤ m) (h1 : m < i) (h2 : i < MAX) :
    Calls Try.prog 15 #[.slice (some ⟨w.heap.size, 0, none⟩) 5 5] (w.alloc (lit m i)) fun e w' => ∃ g c d1 c1 d3 c3 d4 c4, e = .returned (.slice (some ⟨g, 0, none⟩) 5 c) ∧ Tch [] w w' ∧ w'.cell? ⟨g, 0, none⟩ = some (.int .u64 m) ∧ w'.cell? ⟨g, 1, none⟩ = some (.int .u64 0) ∧ w'.cell? ⟨g, 9, none⟩ = some (.slice (some ⟨d1, 0, none⟩) 1 c1) ∧ w'.cell? ⟨d1, 0, none⟩ = some (.bool true) ∧
      w'.cell? ⟨g, 10, none⟩ = some (.int .u64 m) ∧ w'.cell? ⟨g, 11, none⟩ = some (.int .u64 i) ∧ w'.cell? ⟨g, 19, none⟩ = some (.slice (some ⟨d3, 0, none⟩) 2 c3) ∧ w'.cell? ⟨d3, 1, none⟩ = some (.bool false) ∧ w'.cell? ⟨g, 20, none⟩ = some (.int .u64 i) ∧
      w'.cell? ⟨g, 24, none⟩ = some (.slice (some ⟨d4, 0, none⟩) 2 c4) ∧ w'.cell? ⟨d4, 1, none⟩ = some (.bool true) := by
  have hrow : (w.alloc (lit m i)).ownsRow 0 31 3 (.slice (some ⟨w.heap.size, 0, none⟩) 5 5) 5 ((setL m i).flatMap stpCells) := World.ownsRow_lit (base := 0) (e := 31) (size := 3) w _ 5 (Nat.zero_le _) (by unfold maxLen; omega) rfl
  have hst := steps_own hrow rfl (by intro p hp; simp only [setL, List.mem_cons, List.not_mem_nil, or_false] at hp; rcases hp with rfl | rfl | rfl | rfl | rfl <;> rfl)
  refine (runMark_any (setL m i) (some ⟨w.heap.size, 0, none⟩) 5 _ (set_ok h0 h1 h2) (by show 5 ≤ 5000; omega) (by show 5 ≤ 5000; omega) hst).mono ?_
  rintro e w' ⟨ov, outs, rfl, ho, hm⟩
  rw [set_told h1] at hm
  obtain ⟨g, c, d1, c1, d3, c3, d4, c4, rfl, rest⟩ := read ho hm
  exact ⟨g, c, d1, c1, d3, c3, d4, c4, rfl, ((Tch.refl [] w).alloc _).trans ho.t, rest⟩

set_option maxRecDepth 100000 in
set_option maxHeartbeats 1000000 in
theorem walk (a0 : Int) (a1 : Int) (w0 : (Lit.int .u64 a0).wf = true) (w1 : (Lit.int .u64 a1).wf = true) (w : World) :
    Calls Try.prog 8 #[.int .u64 a0, .int .u64 a1] w fun e w' => e = .returned (.bool true) ∧ Tch [] w w' := by
  have r0 : 0 ≤ a0 ∧ a0 ≤ 18446744073709551615 := wf_u64 w0
  have r1 : 0 ≤ a1 ∧ a1 ≤ 18446744073709551615 := wf_u64 w1
  have ht := Lib.hid (Tch.refl [] w)
  by_cases hm : a0 = 18446744073709551615
  · have t0 : (a0 == 18446744073709551615) = true := by simpa using hm
    clear hm r0 r1 w0 w1
    go_enter Try.func8, Try.ntmps8
    go_wp2
    go_ret
    exact ⟨rfl, ht.out⟩
  have t0 : (a0 == 18446744073709551615) = false := by simpa using hm
  by_cases hi : a1 = 18446744073709551615
  · have t1 : (a1 == 18446744073709551615) = true := by simpa using hi
    clear hm hi r0 r1 w0 w1
    go_enter Try.func8, Try.ntmps8
    go_wp2
    go_ret
    exact ⟨rfl, ht.out⟩
  have t1 : (a1 == 18446744073709551615) = false := by simpa using hi
  by_cases hle : a1 ≤ a0
  · have t2 : decide (a1 ≤ a0) = true := by simpa using hle
    clear hm hi hle r0 r1 w0 w1
    go_enter Try.func8, Try.ntmps8
    go_wp2
    go_ret
    exact ⟨rfl, ht.out⟩
  have t2 : decide (a1 ≤ a0) = false := by simpa using hle
  have HC := Lib.hid (call a0 a1 w r0.1 (by omega) (by have := r1.2; show a1 < MAX; unfold MAX; omega))
  clear hm hi hle r0 r1 w0 w1
  go_enter Try.func8, Try.ntmps8
  go_wp2_with (go_at_call 15; refine HC.out.mono ?_; rintro e w2 ⟨g, c, d1, c1, d3, c3, d4, c4, rfl, ht2, k0, k1, k2, k3, k4, k5, k6, k7, k8, k9, k10⟩; have HT2 := Lib.hid ht2; clear ht2)
  go_ret
  exact ⟨rfl, HT2.out⟩

/-! ### THE ROW's STEP: WRITTEN OUT: LEAVE IT -/
set_option maxRecDepth 100000 in
theorem lifted (os : Os) (started : os.Started) (H : Type) (enc : TypeId × Value → H) :
    ReturnsInHanded {} Try.checked os 8 .any (Rows.fnMarkSetSpec.pre6 enc Try.prog Try.f8 Rows.fnMarkSetRow.domain false) (Rows.fnMarkSetSpec.post enc Try.prog Try.f8 false true false false) := by
  refine returnsInHanded_of_change (C := Try.checked) own started (by kernel_rfl) Try.func8
    (ChangeSpec.witness6 (enc := enc) (C := Try.checked) false ⟨#[], #[.int .u64 0, .int .u64 0], []⟩ 8 (by kernel_rfl) (by kernel_rfl) (by kernel_rfl) (by kernel_rfl)) ?_
  intro W base args ds gs before hval0 hW hcnd _
  have hval : ∀ (j : Nat) t v, Try.f8.params[j]? = some t → args[j]? = some v → Value.okWide Try.prog W .any base t v := hval0
  have hW' := hW
  obtain ⟨p, q, hA0, hV, rfl, hfz, hnd⟩ := hW
  have hA : DataW.TrodAll enc Try.prog W 0 (fun _ => true) true Try.f8.params.toList args.toList ds p := hA0
  rw [Try.params8] at hA hval
  obtain ⟨v0, vs0, d0, ds0, p0, q0, hargs, rfl, rfl, h0, r0⟩ := trodAll_cons hA
  obtain ⟨v1, vs1, d1, ds1, p1, q1, rfl, rfl, rfl, h1, r1⟩ := trodAll_cons r0
  obtain ⟨rfl, rfl, rfl⟩ := trodAll_nil r1
  obtain rfl : args = #[v0, v1] := by cases args; simp_all
  obtain ⟨rfl, rfl⟩ := trodVars_none hV
  obtain ⟨a0, rfl, rfl, rfl, w0⟩ := open_int Try.underlying28 (hval 0 28 v0 rfl rfl) h0
  obtain ⟨a1, rfl, rfl, rfl, w1⟩ := open_int Try.underlying28 (hval 1 28 v1 rfl rfl) h1
  clear hA0 hval0
  simp only [List.append_nil] at hW'
  refine (walk a0 a1 w0 w1 W).mono fun e W' ⟨he, hg⟩ => ?_
  subst he
  exact ⟨_, rfl, post_of_tch (pa := []) (pv := []) hW' (fun _ _ _ => (trodAll_cons_mk (shut_bool Try.underlying4 _) trodAll_mk0)) (fun sp _ => (trodAll_cons_mk (shut_int Try.underlying28 w0) (trodAll_cons_mk (shut_int Try.underlying28 w1) trodAll_mk0))) (fun _ _ => rfl) rfl
    hg (ok_one (by kernel_rfl) rfl (okWide_bool_mk Try.underlying4 _))⟩

theorem over : Rows.fnMarkSetRow.holds Try.pinned (OpenSpec.ofChange Rows.fnMarkSetSpec) :=
  OpenClaim.holds_of_wide 8 Try.f8 rfl rfl rfl rfl rfl rfl rfl ⟨rfl, rfl, rfl, rfl, rfl⟩ rfl rfl rfl rfl rfl (by kernel_rfl) Try.func8 (by kernel_rfl)
    (of_decide_eq_true (by kernel_rfl)) (by unfold Func.isWrapper; first | (rw [if_pos (by decide +kernel)]; kernel_rfl) | (rw [if_neg (by decide +kernel)]; exact ⟨rfl, rfl⟩))
    (fun os started H enc _ => lifted os started H enc)

/-- ████ THE STATEMENT ████ -/
theorem proved : Rows.FnMarkSetSaid :=
  over
#print axioms proved
end Go.Proofs.Ytaheafmdkbobcaa.fnMarkSet
