/- The steps that came in, opened. -/
import Derived.Test.YtaheafmdkbobcaaLift
namespace Go.Proofs.Ytaheafmdkbobcaa
open Go.ChangeShapes Go.WideShapes Go.Deep Go.RowKit

theorem Try.tsize : Try.prog.types.size = 102 := by kernel_rfl
theorem Try.cells31 : Try.prog.cellsOf 31 = 3 := by kernel_rfl
theorem Try.cells2 : Try.prog.cellsOf 2 = 1 := by kernel_rfl
theorem Try.cells28 : Try.prog.cellsOf 28 = 1 := by kernel_rfl
theorem Try.cells29 : Try.prog.cellsOf 29 = 1 := by kernel_rfl

theorem StepsAt.tch {w w' : World} {sa : Option Addr} {L : List Stp} (h : StepsAt w sa L) (t : Tch [] w w') : StepsAt w' sa L := by
  intro i hi
  obtain ⟨a, ha, h'⟩ := h i hi
  exact ⟨a, ha, h'.tch t⟩

theorem OutAt.tch {w0 w w' : World} {ov : Value} {outs : List (TR × Value)} (h : OutAt w0 w ov outs) (t : Tch [] w w') : OutAt w0 w' ov outs :=
  ⟨h.t.trans t, t.own h.row (by simp), h.rn, fun p hp => ⟨t.own (h.dn p hp).1 (by simp), (h.dn p hp).2⟩⟩

section
variable {H : Type} {enc : TypeId × Value → H} {w : World} {fuel : Nat} {cs : List Value} {x : DataW H × List MemPlace}

/-- Whole numbers that came in. -/
theorem open_u64s (h : DataW.trod enc Try.prog w 0 (fun _ => true) true fuel 29 cs = some x) : ∃ (am : Option Addr) (zs : List Int) (cm : Nat), cs = [.slice am zs.length cm] ∧ (am = none → cm = 0 ∧ zs.length = 0) ∧
    (∀ ad, am = some ad → ∀ j, j < zs.length → ad.block < w.heap.size ∧ w.cell? (ad.add j) = some (.int .u64 (zs.getD j 0))) ∧ ∀ z ∈ zs, 0 ≤ z ∧ z ≤ MAX := by
  rcases open_slice1 Try.underlying29 Try.cells28 h with ⟨rfl, -⟩ | ⟨ad, len, cap, m, n, V, D, Pl, rfl, hb, hl, hm, hmm, -, hi⟩
  · exact ⟨none, [], 0, rfl, fun _ => ⟨rfl, rfl⟩, fun ad hd => by simp at hd, by simp⟩
  · simp only [if_true] at hmm
    have one : ∀ j, j < len → ∃ z : Int, w.cell? (ad.add j) = some (.int .u64 z) ∧ 0 ≤ z ∧ z ≤ MAX := by
      intro j hj
      obtain ⟨h1, h2⟩ := hi j (by omega)
      obtain ⟨z, e, -, hw⟩ := DataW.trod_int Try.underlying28 h2
      simp only [List.cons.injEq, and_true] at e
      have hz := wf_u64 hw
      exact ⟨z, by rw [h1, e], hz.1, by unfold MAX; omega⟩
    obtain ⟨f, hf⟩ := choose_lt one
    have hlen : ((List.range len).map f).length = len := by simp
    refine ⟨some ad, (List.range len).map f, cap, by rw [hlen], by simp, fun a ha j hj => ?_, fun z hz => ?_⟩
    · simp only [Option.some.injEq] at ha
      subst ha
      rw [hlen] at hj
      have e : ((List.range len).map f).getD j 0 = f j := by simp [List.getD, hj]
      rw [e]
      have hc := (hf j hj).1
      refine ⟨?_, hc⟩
      have := World.block_lt_of_cell? w _ hc
      rw [add_block] at this
      exact this
    · obtain ⟨j, hj, rfl⟩ := List.mem_map.1 hz
      exact (hf j (List.mem_range.1 hj)).2

/-- Steps that came in. -/
theorem open_steps (h : DataW.trod enc Try.prog w 0 (fun _ => true) true fuel 22 cs = some x) : ∃ (sa : Option Addr) (L : List Stp) (cz : Nat), cs = [.slice sa L.length cz] ∧ StepsAt w sa L ∧ ∀ i, i < L.length → (L.getD i default).idx ≤ MAX ∧ ∀ z ∈ (L.getD i default).many, z ≤ MAX := by
  rcases open_slice Try.underlying22 h with ⟨rfl, -⟩ | ⟨a, len, cap, m, n, D, Pl, rfl, hb, hl, hm, hmm, -, hi⟩
  · exact ⟨none, [], 0, rfl, fun i hi => absurd hi (by simp), fun i hi => absurd hi (by simp)⟩
  · simp only [if_true] at hmm
    have one : ∀ i, i < len → ∃ p : Stp, StepAt w (a.add (i * 3)) p ∧ p.idx ≤ MAX ∧ ∀ z ∈ p.many, z ≤ MAX := by
      intro i hil
      obtain ⟨cs', hc, ht⟩ := hi i (by omega)
      rw [Try.cells31] at hc
      obtain ⟨xs, n', -, -, hcl0, hyl, hf⟩ := DataW.trod_struct Try.underlying31 ht
      obtain ⟨-, hcl, hat⟩ := World.cells?_some hc
      match cs', hcl with
      | [c0, c1, c2], _ =>
        match xs, hyl with
        | [y0, y1, y2], _ =>
          have h0 : DataW.trod enc Try.prog w 0 (fun _ => true) true n' 2 [c0] = some y0 := by have := hf 0 ⟨_, 2, 0, _, _, _, _⟩ rfl; simp only [Try.cells2] at this; exact this
          have h1 : DataW.trod enc Try.prog w 0 (fun _ => true) true n' 28 [c1] = some y1 := by have := hf 1 ⟨_, 28, 1, _, _, _, _⟩ rfl; simp only [Try.cells28] at this; exact this
          have h2 : DataW.trod enc Try.prog w 0 (fun _ => true) true n' 29 [c2] = some y2 := by have := hf 2 ⟨_, 29, 2, _, _, _, _⟩ rfl; simp only [Try.cells29] at this; exact this
          obtain ⟨kd, e0, -, -⟩ := DataW.trod_int Try.underlying2 h0
          obtain ⟨ix, e1, -, hw⟩ := DataW.trod_int Try.underlying28 h1
          obtain ⟨am, zs, cm, e2, g1, g2, g3⟩ := open_u64s h2
          simp only [List.cons.injEq, and_true] at e0 e1 e2
          subst e0; subst e1; subst e2
          have a0 := hat 0 (by omega)
          have a1 := hat 1 (by omega)
          have a2 := hat 2 (by omega)
          have hz := wf_u64 hw
          have a00 : (a.add (i * 3)).add 0 = a.add (i * 3) := by unfold Addr.add; simp
          rw [a00] at a0
          refine ⟨⟨kd, ix, zs⟩, ⟨World.block_lt_of_cell? w _ a0, a0, a1, am, cm, a2, g1, g2⟩, by show ix ≤ MAX; unfold MAX; omega, fun z hz => (g3 z hz).2⟩
    obtain ⟨f, hf⟩ := choose_lt one
    have hlen : ((List.range len).map f).length = len := by simp
    have hg : ∀ i, i < len → ((List.range len).map f).getD i default = f i := fun i hi => by simp [List.getD, hi]
    refine ⟨some a, (List.range len).map f, cap, by rw [hlen], fun i hi => ⟨a, rfl, ?_⟩, fun i hi => ?_⟩
    · rw [hlen] at hi
      rw [hg i hi]; exact (hf i hi).1
    · rw [hlen] at hi
      rw [hg i hi]; exact (hf i hi).2
end

end Go.Proofs.Ytaheafmdkbobcaa
