/- FnMarkWait returns true for every index and every wanted index: what waits for an index that the mark has reached is done at once, and for a later one when the mark comes there. No condition. -/
import Derived.Test.YtaheafmdkbobcaaSetP
import Derived.Test.YtaheafmdkbobcaaRows
import Derived.WalkKit
import Derived.ProofKit
import Derived.OpenShut
import Derived.ShutString
namespace Go.Proofs.Ytaheafmdkbobcaa.fnMarkWait
open Go.ChangeShapes Go.WideShapes Go.ChangeAt Go.RowKit
open Go.ChangeMaps (open_string shut_string)
set_option linter.unusedVariables false      -- a walk need not use every 'w<i>' (that an integer argument fits its kind)

theorem own : ownKnob Try.prog.godebug = none := by kernel_rfl

/-- What is read. -/
theorem read {i x a b c' d : Int} {w0 w : World} {ov : Value} {outs : List (TR × Value)} (h : OutAt w0 w ov outs) (ho : outs.map Prod.fst = [⟨0, 0, 0, a, [decide (x ≤ 0)]⟩, ⟨0, i, 1, b, [decide (x ≤ 0)]⟩, ⟨i, i, 0, c', [decide (x ≤ i)]⟩, ⟨i, i, 0, d, [decide (x ≤ i), decide (x ≤ i)]⟩]) :
    ∃ g c d0 c0 d1 c1 d2 c2 d3 c3, ov = .slice (some ⟨g, 0, none⟩) 4 c ∧ w.cell? ⟨g, 4, none⟩ = some (.slice (some ⟨d0, 0, none⟩) 1 c0) ∧ w.cell? ⟨d0, 0, none⟩ = some (.bool (decide (x ≤ 0))) ∧ w.cell? ⟨g, 9, none⟩ = some (.slice (some ⟨d1, 0, none⟩) 1 c1) ∧ w.cell? ⟨d1, 0, none⟩ = some (.bool (decide (x ≤ 0))) ∧
      w.cell? ⟨g, 14, none⟩ = some (.slice (some ⟨d2, 0, none⟩) 1 c2) ∧ w.cell? ⟨d2, 0, none⟩ = some (.bool (decide (x ≤ i))) ∧ w.cell? ⟨g, 19, none⟩ = some (.slice (some ⟨d3, 0, none⟩) 2 c3) ∧ w.cell? ⟨d3, 1, none⟩ = some (.bool (decide (x ≤ i))) ∧ w.cell? ⟨g, 15, none⟩ = some (.int .u64 i) := by
  have hl : outs.length = 4 := by have := congrArg List.length ho; simpa using this
  obtain ⟨g, c, rfl⟩ := h.shape (by omega)
  rw [hl] at h ⊢
  match outs, hl with
  | [p0, p1, p2, p3], _ =>
    simp only [List.map_cons, List.map_nil, List.cons.injEq, and_true] at ho
    obtain ⟨e0, e1, e2, e3⟩ := ho
    have hc := fun (i : Nat) (p : TR × Value) (hp : [p0, p1, p2, p3][i]? = some p) (j : Nat) (hj : j < 5) => h.cell rfl hp hj
    obtain ⟨a0, c0, v0, b0⟩ := h.done (p := p0) (by simp)
    obtain ⟨a1, c1, v1, b1⟩ := h.done (p := p1) (by simp)
    obtain ⟨a2, c2, v2, b2⟩ := h.done (p := p2) (by simp)
    obtain ⟨a3, c3, v3, b3⟩ := h.done (p := p3) (by simp)
    rw [e0] at v0 b0
    rw [e1] at v1 b1
    rw [e2] at v2 b2
    rw [e3] at v3 b3
    obtain ⟨d0, rfl, f0⟩ := b0 0 _ rfl
    obtain ⟨d1, rfl, f1⟩ := b1 0 _ rfl
    obtain ⟨d2, rfl, f2⟩ := b2 0 _ rfl
    obtain ⟨d3, rfl, f3⟩ := b3 1 _ rfl
    refine ⟨g, c, d0, c0, d1, c1, d2, c2, d3, c3, rfl, ?_, f0, ?_, f1, ?_, f2, ?_, f3, ?_⟩
    · have := hc 0 p0 rfl 4 (by omega); simpa [outCells, v0] using this
    · have := hc 1 p1 rfl 4 (by omega); simpa [outCells, v1] using this
    · have := hc 2 p2 rfl 4 (by omega); simpa [outCells, v2] using this
    · have := hc 3 p3 rfl 4 (by omega); simpa [outCells, v3] using this
    · have := hc 3 p3 rfl 0 (by omega); simpa [outCells, e3] using this

abbrev lit (i x : Int) : Obj := .cells #[.int .i64 4, .int .u64 x, .slice none 0 0, .int .i64 0, .int .u64 i, .slice none 0 0, .int .i64 2, .int .u64 i, .slice none 0 0, .int .i64 4, .int .u64 x, .slice none 0 0] 31

theorem call (i x : Int) (W : World) (n : Nat) (hn : W.heap.size = n) (h1 : 1 ≤ i) (h2 : i < MAX) :
    Calls Try.prog 15 #[.slice (some ⟨n, 0, none⟩) 4 4] (W.alloc (lit i x)) fun e w => ∃ g c d0 c0 d1 c1 d2 c2 d3 c3, e = .returned (.slice (some ⟨g, 0, none⟩) 4 c) ∧ Tch [] W w ∧ w.cell? ⟨g, 4, none⟩ = some (.slice (some ⟨d0, 0, none⟩) 1 c0) ∧ w.cell? ⟨d0, 0, none⟩ = some (.bool (decide (x ≤ 0))) ∧ w.cell? ⟨g, 9, none⟩ = some (.slice (some ⟨d1, 0, none⟩) 1 c1) ∧ w.cell? ⟨d1, 0, none⟩ = some (.bool (decide (x ≤ 0))) ∧
      w.cell? ⟨g, 14, none⟩ = some (.slice (some ⟨d2, 0, none⟩) 1 c2) ∧ w.cell? ⟨d2, 0, none⟩ = some (.bool (decide (x ≤ i))) ∧ w.cell? ⟨g, 19, none⟩ = some (.slice (some ⟨d3, 0, none⟩) 2 c3) ∧ w.cell? ⟨d3, 1, none⟩ = some (.bool (decide (x ≤ i))) ∧ w.cell? ⟨g, 15, none⟩ = some (.int .u64 i) := by
  subst hn
  have hrow : (W.alloc (lit i x)).ownsRow 0 31 3 (.slice (some ⟨W.heap.size, 0, none⟩) 4 4) 4 ((waitL i x).flatMap stpCells) := World.ownsRow_lit (base := 0) (e := 31) (size := 3) W _ 4 (Nat.zero_le _) (by unfold maxLen; omega) rfl
  have hst := steps_own hrow rfl (by intro p hp; simp only [waitL, List.mem_cons, List.not_mem_nil, or_false] at hp; rcases hp with rfl | rfl | rfl | rfl <;> rfl)
  refine (runMark_any (waitL i x) (some ⟨W.heap.size, 0, none⟩) 4 _ (wait_ok h1 h2) (by show 4 ≤ 5000; omega) (by show 4 ≤ 5000; omega) hst).mono ?_
  rintro e w ⟨ov, outs, rfl, ho, hm⟩
  obtain ⟨a, b, c', d, ht⟩ := wait_told (i := i) (x := x)
  rw [ht] at hm
  obtain ⟨g, c, d0, c0, d1, c1, d2, c2, d3, c3, rfl, rest⟩ := read ho hm
  exact ⟨g, c, d0, c0, d1, c1, d2, c2, d3, c3, rfl, ((Tch.refl [] W).alloc _).trans ho.t, rest⟩

set_option maxRecDepth 100000 in
set_option maxHeartbeats 1000000 in
theorem walk (a0 : Int) (a1 : Int) (w0 : (Lit.int .u64 a0).wf = true) (w1 : (Lit.int .u64 a1).wf = true) (w : World) :
    Calls Try.prog 10 #[.int .u64 a0, .int .u64 a1] w fun e w' => e = .returned (.bool true) ∧ Tch [] w w' := by
  have r0 := wf_u64 w0
  have r1 := wf_u64 w1
  have ht := Lib.hid (Tch.refl [] w)
  by_cases hm : a0 < 1
  · have t0 : decide (a0 < 1) = true := by simpa using hm
    clear hm r0 r1 w0 w1
    go_enter Try.func10, Try.ntmps10
    go_wp2
    go_ret
    exact ⟨rfl, ht.out⟩
  have t0 : decide (a0 < 1) = false := by simpa using hm
  by_cases hi : a0 = 18446744073709551615
  · have t1 : (a0 == 18446744073709551615) = true := by simpa using hi
    clear hm hi r0 r1 w0 w1
    go_enter Try.func10, Try.ntmps10
    go_wp2
    go_ret
    exact ⟨rfl, ht.out⟩
  have t1 : (a0 == 18446744073709551615) = false := by simpa using hi
  have HC := Lib.hid (call a0 a1 (w.alloc (.cells #[.int .i64 4, .int .u64 a1, .slice none 0 0] 31)) (w.heap.size + 1) (by simp) (by omega) (by have := r0.2; show a0 < MAX; unfold MAX; omega))
  have h0 : decide (a1 ≤ 0) = (a1 == 0) := by rw [Bool.eq_iff_iff]; simp; omega
  rw [h0] at HC
  have HA := Lib.hid (((Tch.refl [] w).alloc (.cells #[.int .i64 4, .int .u64 a1, .slice none 0 0] 31)))
  clear hm hi r0 r1 w0 w1 h0
  generalize hb0 : (a1 == 0) = q0 at HC
  generalize hb1 : decide (a1 ≤ a0) = q1 at HC
  go_enter Try.func10, Try.ntmps10
  go_wp2_with (go_at_call 15; refine HC.out.mono ?_; rintro e w2 ⟨g, c, d0, c0, d1, c1, d2, c2, d3, c3, rfl, ht2, k0, k1, k2, k3, k4, k5, k6, k7, k8⟩; have HT2 := Lib.hid ht2; clear ht2)
  go_ret
  exact ⟨rfl, HA.out.trans HT2.out⟩

/-! ### THE ROW's STEP: WRITTEN OUT: LEAVE IT -/
set_option maxRecDepth 100000 in
theorem lifted (os : Os) (started : os.Started) (H : Type) (enc : TypeId × Value → H) :
    ReturnsInHanded {} Try.checked os 10 .any (Rows.fnMarkWaitSpec.pre6 enc Try.prog Try.f10 Rows.fnMarkWaitRow.domain false) (Rows.fnMarkWaitSpec.post enc Try.prog Try.f10 false true false false) := by
  refine returnsInHanded_of_change (C := Try.checked) own started (by kernel_rfl) Try.func10
    (ChangeSpec.witness6 (enc := enc) (C := Try.checked) false ⟨#[], #[.int .u64 0, .int .u64 0], []⟩ 8 (by kernel_rfl) (by kernel_rfl) (by kernel_rfl) (by kernel_rfl)) ?_
  intro W base args ds gs before hval0 hW hcnd _
  have hval : ∀ (j : Nat) t v, Try.f10.params[j]? = some t → args[j]? = some v → Value.okWide Try.prog W .any base t v := hval0
  have hW' := hW
  obtain ⟨p, q, hA0, hV, rfl, hfz, hnd⟩ := hW
  have hA : DataW.TrodAll enc Try.prog W 0 (fun _ => true) true Try.f10.params.toList args.toList ds p := hA0
  rw [Try.params10] at hA hval
  obtain ⟨v0, vs0, d0, ds0, p0, q0, hargs, rfl, rfl, h0, r0⟩ := trodAll_cons hA
  obtain ⟨v1, vs1, d1, ds1, p1, q1, rfl, rfl, rfl, h1, r1⟩ := trodAll_cons r0
  obtain ⟨rfl, rfl, rfl⟩ := trodAll_nil r1
  obtain rfl : args = #[v0, v1] := by cases args; simp_all
  obtain ⟨rfl, rfl⟩ := trodVars_none hV
  obtain ⟨a0, rfl, rfl, rfl, w0⟩ := open_int Try.underlying28 (hval 0 28 v0 rfl rfl) h0
  obtain ⟨a1, rfl, rfl, rfl, w1⟩ := open_int Try.underlying28 (hval 1 28 v1 rfl rfl) h1
  clear hA0 hval0
  simp only [List.append_nil] at hW'
  refine (walk a0 a1 w0 w1 W).mono fun e W' ⟨he, hg⟩ => ?_
  subst he
  exact ⟨_, rfl, post_of_tch (pa := []) (pv := []) hW' (fun _ _ _ => (trodAll_cons_mk (shut_bool Try.underlying4 _) trodAll_mk0)) (fun sp _ => (trodAll_cons_mk (shut_int Try.underlying28 w0) (trodAll_cons_mk (shut_int Try.underlying28 w1) trodAll_mk0))) (fun _ _ => rfl) rfl
    hg (ok_one (by kernel_rfl) rfl (okWide_bool_mk Try.underlying4 _))⟩

theorem over : Rows.fnMarkWaitRow.holds Try.pinned (OpenSpec.ofChange Rows.fnMarkWaitSpec) :=
  OpenClaim.holds_of_wide 10 Try.f10 rfl rfl rfl rfl rfl rfl rfl ⟨rfl, rfl, rfl, rfl, rfl⟩ rfl rfl rfl rfl rfl (by kernel_rfl) Try.func10 (by kernel_rfl)
    (of_decide_eq_true (by kernel_rfl)) (by unfold Func.isWrapper; first | (rw [if_pos (by decide +kernel)]; kernel_rfl) | (rw [if_neg (by decide +kernel)]; exact ⟨rfl, rfl⟩))
    (fun os started H enc _ => lifted os started H enc)

/-- ████ THE STATEMENT ████ -/
theorem proved : Rows.FnMarkWaitSaid :=
  over
#print axioms proved
end Go.Proofs.Ytaheafmdkbobcaa.fnMarkWait
