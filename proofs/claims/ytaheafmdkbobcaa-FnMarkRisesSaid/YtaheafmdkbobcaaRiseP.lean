/- What is told never falls. -/
import Derived.Test.YtaheafmdkbobcaaBoth
namespace Go.Proofs.Ytaheafmdkbobcaa

theorem tells_rise {L : List Stp} (h : okRun L) {i : Nat} (hi : i + 1 < L.length) : (tells L i).til ≤ (tells L (i + 1)).til ∧ (tells L i).done.length ≤ (tells L (i + 1)).done.length ∧ ∀ k : Nat, (tells L i).done[k]? = some true → (tells L (i + 1)).done[k]? = some true := by
  have h1 : (St L (i + 1)).1.til ≤ (St L (i + 1 + 1)).1.til := St_til h hi
  have h2 : ∃ r, (St L (i + 1 + 1)).2 = (St L (i + 1)).2 ++ r := by
    rw [St_succ hi]
    show ∃ r, stpA _ _ = _
    unfold stpA
    split
    · exact ⟨_, rfl⟩
    · exact ⟨[], by simp⟩
  obtain ⟨r, hr⟩ := h2
  refine ⟨h1, ?_, fun k hk => ?_⟩
  · simp [tells, tell, hr]
  · simp only [tells, tell, List.getElem?_map, Option.map_eq_some_iff] at hk ⊢
    obtain ⟨x, hx, ht⟩ := hk
    refine ⟨x, ?_, ?_⟩
    · rw [hr, List.getElem?_append_left (List.getElem?_eq_some_iff.1 hx).1]; exact hx
    · simp only [told, decide_eq_true_eq] at ht ⊢
      omega

end Go.Proofs.Ytaheafmdkbobcaa
