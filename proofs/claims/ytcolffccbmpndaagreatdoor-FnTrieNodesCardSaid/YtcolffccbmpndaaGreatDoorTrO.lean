/- Bytes and steps that came in, opened. -/
import Derived.Test.YtcolffccbmpndaaGreatDoorRows
import Derived.Test.YtcolffccbmpndaaGreatDoorTrX
import Derived.WalkKit
import Derived.ProofKit
import Derived.OpenShut
import Derived.ShutString
import Derived.Deep.Slices
namespace Go.Proofs.YtcolffccbmpndaaGreatDoor
open Go.ChangeShapes Go.WideShapes Go.Deep Go.RowKit
set_option maxRecDepth 100000

theorem Tryz.tsize : Tryz.prog.types.size = 199 := by kernel_rfl
theorem Tryz.cellsU8 : Tryz.prog.cellsOf 5 = 1 := by kernel_rfl
theorem Tryz.cellsI64 : Tryz.prog.cellsOf 2 = 1 := by kernel_rfl
theorem Tryz.cellsU64 : Tryz.prog.cellsOf 26 = 1 := by kernel_rfl
theorem Tryz.cellsStr : Tryz.prog.cellsOf 9 = 1 := by kernel_rfl
theorem Tryz.cellsBytes : Tryz.prog.cellsOf 23 = 1 := by kernel_rfl
theorem Tryz.cellsStep : Tryz.prog.cellsOf 28 = 4 := by kernel_rfl

theorem wf_u8 {a : Int} (h : (Lit.int .u8 a).wf = true) : 0 ≤ a ∧ a < 256 := by
  simp only [Lit.wf, Bool.and_eq_true, decide_eq_true_eq] at h
  exact ⟨h.1, Int.lt_of_le_of_lt h.2 (by decide)⟩

section
variable {H : Type} {enc : TypeId × Value → H} {w : World} {fuel : Nat} {cs : List Value} {x : DataW H × List MemPlace}

/-- Bytes that came in. -/
theorem open_bytes (h : DataW.trod enc Tryz.prog w 0 (fun _ => true) true fuel 23 cs = some x) : ∃ (a : Option Addr) (l : List Int) (c : Nat), cs = [.slice a l.length c] ∧ By w l a c := by
  rcases open_slice1 Tryz.underlying23 Tryz.cellsU8 h with ⟨rfl, -⟩ | ⟨ad, len, cap, m, n, V, D, Pl, rfl, hb, hl, hm, hmm, -, hi⟩
  · exact ⟨none, [], 0, rfl, by simp, fun _ => ⟨rfl, rfl⟩, fun ad hd => by simp at hd, by simp⟩
  · simp only [if_true] at hmm
    have one : ∀ j, j < len → ∃ z : Int, w.cell? (ad.add j) = some (.int .u8 z) ∧ 0 ≤ z ∧ z < 256 := by
      intro j hj
      obtain ⟨h1, h2⟩ := hi j (by omega)
      obtain ⟨z, e, -, hw⟩ := DataW.trod_int Tryz.underlying5 h2
      simp only [List.cons.injEq, and_true] at e
      have hz := wf_u8 hw
      exact ⟨z, by rw [h1, e], hz.1, hz.2⟩
    obtain ⟨f, hf⟩ := choose_lt one
    have hlen : ((List.range len).map f).length = len := by simp
    refine ⟨some ad, (List.range len).map f, cap, by rw [hlen], by rw [hlen]; exact hl, by simp, fun a ha j hj => ?_, fun z hz => ?_⟩
    · simp only [Option.some.injEq] at ha
      subst ha
      rw [hlen] at hj
      have e : ((List.range len).map f).getD j 0 = f j := by simp [List.getD, hj]
      rw [e]
      have hc := (hf j hj).1
      refine ⟨?_, hc⟩
      have := World.block_lt_of_cell? w _ hc
      rw [add_block] at this
      exact this
    · obtain ⟨j, hj, rfl⟩ := List.mem_map.1 hz
      exact (hf j (List.mem_range.1 hj)).2

/-- Steps that came in. -/
theorem open_steps (h : DataW.trod enc Tryz.prog w 0 (fun _ => true) true fuel 22 cs = some x) : ∃ (sa : Option Addr) (L : List StepD) (cz : Nat), cs = [.slice sa L.length cz] ∧ StepsAt w sa L := by
  rcases open_slice Tryz.underlying22 h with ⟨rfl, -⟩ | ⟨a, len, cap, m, n, D, Pl, rfl, hb, hl, hm, hmm, -, hi⟩
  · exact ⟨none, [], 0, rfl, fun i hi => absurd hi (by simp)⟩
  · simp only [if_true] at hmm
    have one : ∀ i, i < len → ∃ p : StepD, StepAt w (a.add (i * 4)) p := by
      intro i hil
      obtain ⟨cs', hc, ht⟩ := hi i (by omega)
      rw [Tryz.cellsStep] at hc
      obtain ⟨xs, n', -, -, hcl0, hyl, hf⟩ := DataW.trod_struct Tryz.underlying28 ht
      obtain ⟨-, hcl, hat⟩ := World.cells?_some hc
      match cs', hcl with
      | [c0, c1, c2, c3], _ =>
        match xs, hyl with
        | [y0, y1, y2, y3], _ =>
          have h0 : DataW.trod enc Tryz.prog w 0 (fun _ => true) true n' 2 [c0] = some y0 := by have := hf 0 ⟨_, 2, 0, _, _, _, _⟩ rfl; simp only [Tryz.cellsI64] at this; exact this
          have h1 : DataW.trod enc Tryz.prog w 0 (fun _ => true) true n' 23 [c1] = some y1 := by have := hf 1 ⟨_, 23, 1, _, _, _, _⟩ rfl; simp only [Tryz.cellsBytes] at this; exact this
          have h2 : DataW.trod enc Tryz.prog w 0 (fun _ => true) true n' 9 [c2] = some y2 := by have := hf 2 ⟨_, 9, 2, _, _, _, _⟩ rfl; simp only [Tryz.cellsStr] at this; exact this
          have h3 : DataW.trod enc Tryz.prog w 0 (fun _ => true) true n' 26 [c3] = some y3 := by have := hf 3 ⟨_, 26, 3, _, _, _, _⟩ rfl; simp only [Tryz.cellsU64] at this; exact this
          obtain ⟨kd, e0, -, -⟩ := DataW.trod_int Tryz.underlying2 h0
          obtain ⟨am, zs, cm, e1, g1⟩ := open_bytes h1
          obtain ⟨s, e2, -⟩ := DataW.trod_string Tryz.underlying9 h2
          obtain ⟨ix, e3, -, -⟩ := DataW.trod_int Tryz.underlying26 h3
          simp only [List.cons.injEq, and_true] at e0 e1 e2 e3
          subst e0; subst e1; subst e2; subst e3
          have a0 := hat 0 (by omega)
          have a1 := hat 1 (by omega)
          have a2 := hat 2 (by omega)
          have a3 := hat 3 (by omega)
          have a00 : (a.add (i * 4)).add 0 = a.add (i * 4) := by unfold Addr.add; simp
          rw [a00] at a0
          exact ⟨⟨kd, zs, s.data.toList, ix⟩, ⟨World.block_lt_of_cell? w _ a0, a0, ⟨am, cm, a1, g1⟩, a2, a3⟩⟩
    obtain ⟨f, hf⟩ := choose_lt one
    have hlen : ((List.range len).map f).length = len := by simp
    have hg : ∀ i, i < len → ((List.range len).map f).getD i default = f i := fun i hi => by simp [List.getD, hi]
    refine ⟨some a, (List.range len).map f, cap, by rw [hlen], fun i hi => ⟨a, rfl, ?_⟩⟩
    rw [hlen] at hi
    rw [hg i hi]; exact hf i hi
end

end Go.Proofs.YtcolffccbmpndaaGreatDoor
