/- What the steps of FnMarkSet and FnMarkWait tell. -/
import Derived.Test.YtaheafmdkbobcaaLit
namespace Go.Proofs.Ytaheafmdkbobcaa
open Go.RowKit

theorem range5 : List.range 5 = [0, 1, 2, 3, 4] := rfl
theorem range4 : List.range 4 = [0, 1, 2, 3] := rfl

/-- The steps of FnMarkSet. -/
def setL (m i : Int) : List Stp := [⟨5, m, []⟩, ⟨4, m, []⟩, ⟨0, i, []⟩, ⟨4, i, []⟩, ⟨2, i, []⟩]
/-- The steps of FnMarkWait. -/
def waitL (i x : Int) : List Stp := [⟨4, x, []⟩, ⟨0, i, []⟩, ⟨2, i, []⟩, ⟨4, x, []⟩]

theorem set_St (m i : Int) : St (setL m i) 0 = (new0, []) ∧ St (setL m i) 1 = (⟨m, 0, [], []⟩, []) ∧ St (setL m i) 2 = (⟨m, 0, [], []⟩, [m]) ∧ St (setL m i) 3 = (⟨m, i, [(i, 1)], []⟩, [m]) ∧ St (setL m i) 4 = (⟨m, i, [(i, 1)], []⟩, [m, i]) ∧ St (setL m i) 5 = (⟨i, i, [], []⟩, [m, i]) := by
  have e1 : St (setL m i) 1 = (⟨m, 0, [], []⟩, []) := rfl
  have e2 : St (setL m i) 2 = (⟨m, 0, [], []⟩, [m]) := rfl
  have e3 : St (setL m i) 3 = (⟨m, i, [(i, 1)], []⟩, [m]) := rfl
  have e4 : St (setL m i) 4 = (⟨m, i, [(i, 1)], []⟩, [m, i]) := rfl
  have e5 : St (setL m i) 5 = (⟨i, i, [], []⟩, [m, i]) := by
    rw [St_succ (show 4 < (setL m i).length from Nat.lt_succ_self 4), e4]
    show stp _ ⟨2, i, []⟩ = _
    simp [stp, stpM_2, stpA, next1, putC, cnt?, drainP, minKey]
  exact ⟨rfl, e1, e2, e3, e4, e5⟩

theorem wait_St (i x : Int) : St (waitL i x) 0 = (new0, []) ∧ St (waitL i x) 1 = (new0, [x]) ∧ St (waitL i x) 2 = (⟨0, i, [(i, 1)], []⟩, [x]) ∧ St (waitL i x) 3 = (⟨i, i, [], []⟩, [x]) ∧ St (waitL i x) 4 = (⟨i, i, [], []⟩, [x, x]) := by
  have e2 : St (waitL i x) 2 = (⟨0, i, [(i, 1)], []⟩, [x]) := rfl
  have e3 : St (waitL i x) 3 = (⟨i, i, [], []⟩, [x]) := by
    rw [St_succ (show 2 < (waitL i x).length from by show 2 < 4; omega), e2]
    show stp _ ⟨2, i, []⟩ = _
    simp [stp, stpM_2, stpA, next1, putC, cnt?, drainP, minKey]
  have e4 : St (waitL i x) 4 = (⟨i, i, [], []⟩, [x, x]) := by
    rw [St_succ (show 3 < (waitL i x).length from by show 3 < 4; omega), e3]
    show stp _ ⟨4, x, []⟩ = _
    simp [stp, stpM_4, stpA]
  exact ⟨rfl, rfl, e2, e3, e4⟩

theorem set_ok {m i : Int} (h0 : 0 ≤ m) (h1 : m < i) (h2 : i < MAX) : okRun (setL m i) := by
  obtain ⟨s0, s1, s2, s3, s4, -⟩ := set_St m i
  intro k hk
  have hk : k < 5 := hk
  have : k = 0 ∨ k = 1 ∨ k = 2 ∨ k = 3 ∨ k = 4 := by omega
  rcases this with rfl | rfl | rfl | rfl | rfl
  · rw [s0]; refine .inr (.inr (.inr (.inr (.inr ⟨rfl, rfl, by simp, h0, ?_⟩)))); show m < MAX; omega
  · rw [s1]; exact .inr (.inr (.inr (.inr (.inl rfl))))
  · rw [s2]; exact .inl ⟨rfl, h1, h2⟩
  · rw [s3]; exact .inr (.inr (.inr (.inr (.inl rfl))))
  · rw [s4]; refine .inr (.inr (.inl ⟨rfl, 1, ?_, by omega⟩)); show cnt? [(i, 1)] i = some 1; simp [cnt?]

theorem wait_ok {i x : Int} (h1 : 1 ≤ i) (h2 : i < MAX) : okRun (waitL i x) := by
  obtain ⟨s0, s1, s2, s3, -⟩ := wait_St i x
  intro k hk
  have hk : k < 4 := hk
  have : k = 0 ∨ k = 1 ∨ k = 2 ∨ k = 3 := by omega
  rcases this with rfl | rfl | rfl | rfl
  · rw [s0]; exact .inr (.inr (.inr (.inr (.inl rfl))))
  · rw [s1]; refine .inl ⟨rfl, ?_, h2⟩; show (0 : Int) < i; omega
  · rw [s2]; refine .inr (.inr (.inl ⟨rfl, 1, ?_, by omega⟩)); show cnt? [(i, 1)] i = some 1; simp [cnt?]
  · rw [s3]; exact .inr (.inr (.inr (.inr (.inl rfl))))

theorem set_told {m i : Int} (h1 : m < i) : (List.range (setL m i).length).map (fun k => tell (St (setL m i) (k + 1))) = [⟨m, 0, 0, 0, []⟩, ⟨m, 0, 0, 0, [true]⟩, ⟨m, i, 1, 0, [true]⟩, ⟨m, i, 1, 1, [true, false]⟩, ⟨i, i, 0, 0, [true, true]⟩] := by
  obtain ⟨s0, s1, s2, s3, s4, s5⟩ := set_St m i
  show (List.range 5).map _ = _
  rw [range5]
  simp only [List.map_cons, List.map_nil, Nat.zero_add, Nat.reduceAdd, s1, s2, s3, s4, s5]
  have hn : ¬ i ≤ m := by omega
  have hm : m ≤ i := by omega
  simp [tell, told, hn, hm]

theorem wait_told {i x : Int} : ∃ a b c d : Int, (List.range (waitL i x).length).map (fun k => tell (St (waitL i x) (k + 1))) = [⟨0, 0, 0, a, [decide (x ≤ 0)]⟩, ⟨0, i, 1, b, [decide (x ≤ 0)]⟩, ⟨i, i, 0, c, [decide (x ≤ i)]⟩, ⟨i, i, 0, d, [decide (x ≤ i), decide (x ≤ i)]⟩] := by
  obtain ⟨s0, s1, s2, s3, s4⟩ := wait_St i x
  refine ⟨(tell (new0, [x])).wait, (tell (⟨0, i, [(i, 1)], []⟩, [x])).wait, (tell (⟨i, i, [], []⟩, [x])).wait, (tell (⟨i, i, [], []⟩, [x, x])).wait, ?_⟩
  show (List.range 4).map _ = _
  rw [range4]
  simp only [List.map_cons, List.map_nil, Nat.zero_add, Nat.reduceAdd, s1, s2, s3, s4]
  rfl

end Go.Proofs.Ytaheafmdkbobcaa
