/- The plain law of the heap: what Push and Pop leave is a heap of the same numbers. -/
import Derived.Test.YtaheafmdkbobcaaHpE
namespace Go.Proofs.Ytaheafmdkbobcaa

theorem swp_perm {xs : List Int} {i j : Nat} (hi : i < xs.length) (hj : j < xs.length) : (swp xs i j).Perm xs := by
  have := List.set_set_perm hi hj
  simpa [swp, List.getD, hi, hj] using this

theorem swp_get {xs : List Int} {i j : Nat} (hi : i < xs.length) (hj : j < xs.length) (k : Nat) : (swp xs i j).getD k 0 = if k = j then xs.getD i 0 else if k = i then xs.getD j 0 else xs.getD k 0 := by
  by_cases hk : k < xs.length
  · simp only [swp, List.getD, List.getElem?_set, List.length_set]
    by_cases h1 : k = j
    · subst h1; simp [hk]
    · by_cases h2 : k = i
      · subst h2; simp [Ne.symm h1, h1, hk]
      · simp [Ne.symm h1, Ne.symm h2, h1, h2]
  · have h1 : k ≠ j := by omega
    have h2 : k ≠ i := by omega
    rw [if_neg h1, if_neg h2]
    simp only [swp, List.getD, List.getElem?_set, List.length_set]
    simp [Ne.symm h1, Ne.symm h2]

/-- Of the first m numbers none is less than the one above it. -/
def IsHpTo (xs : List Int) (m : Nat) : Prop := ∀ k, 0 < k → k < m → xs.getD ((k - 1) / 2) 0 ≤ xs.getD k 0
abbrev IsHp (xs : List Int) : Prop := IsHpTo xs xs.length

theorem IsHpTo.root {xs : List Int} {m : Nat} (h : IsHpTo xs m) (k : Nat) (hk : k < m) : xs.getD 0 0 ≤ xs.getD k 0 := by
  induction k using Nat.strongRecOn with
  | _ k ih =>
    by_cases h0 : k = 0
    · subst h0; omega
    · have := h k (by omega) hk
      have := ih ((k - 1) / 2) (by omega) (by omega)
      omega

theorem ltB_iff {xs : List Int} {i j : Nat} : ltB xs i j = true ↔ xs.getD i 0 < xs.getD j 0 := by simp [ltB]
theorem ltB_not {xs : List Int} {i j : Nat} : ltB xs i j = false ↔ xs.getD j 0 ≤ xs.getD i 0 := by simp [ltB]

theorem hup_law (j : Nat) : ∀ xs : List Int, j < xs.length → (∀ k, 0 < k → k < xs.length → k ≠ j → xs.getD ((k - 1) / 2) 0 ≤ xs.getD k 0) →
    (∀ k, 0 < k → k < xs.length → (k - 1) / 2 = j → 0 < j → xs.getD ((j - 1) / 2) 0 ≤ xs.getD k 0) → IsHp (hup xs j) ∧ (hup xs j).Perm xs := by
  induction j using Nat.strongRecOn with
  | _ j ih =>
    intro xs hj h1 h2
    by_cases h0 : j = 0
    · subst h0
      rw [hup_zero]
      exact ⟨fun k hk hl => h1 k hk hl (by omega), List.Perm.refl _⟩
    · cases hb : ltB xs j ((j - 1) / 2) with
      | false =>
        rw [hup_stop _ _ hb]
        rw [ltB_not] at hb
        refine ⟨fun k hk hl => ?_, List.Perm.refl _⟩
        by_cases e : k = j
        · subst e; exact hb
        · exact h1 k hk hl e
      | true =>
        rw [hup_go _ _ h0 hb]
        rw [ltB_iff] at hb
        have hi : (j - 1) / 2 < xs.length := by omega
        have hij : (j - 1) / 2 < j := by omega
        obtain ⟨r1, r2⟩ := ih ((j - 1) / 2) hij (swp xs ((j - 1) / 2) j) (by rw [swp_length]; omega) (by
          intro k hk hl hne
          rw [swp_length] at hl
          rw [swp_get hi hj, swp_get hi hj]
          by_cases e : k = j
          · subst e; rw [if_pos rfl, if_neg (by omega), if_pos rfl]; omega
          · rw [if_neg e, if_neg hne]
            by_cases e2 : (k - 1) / 2 = j
            · rw [if_pos e2]; exact h2 k hk hl e2 (by omega)
            · rw [if_neg e2]
              by_cases e3 : (k - 1) / 2 = (j - 1) / 2
              · rw [if_pos e3]
                have := h1 k hk hl e
                rw [e3] at this; omega
              · rw [if_neg e3]; exact h1 k hk hl e) (by
          intro k hk hl hp h0i
          rw [swp_length] at hl
          rw [swp_get hi hj, swp_get hi hj]
          have hg : ((j - 1) / 2 - 1) / 2 ≠ j := by omega
          have hg2 : ((j - 1) / 2 - 1) / 2 ≠ (j - 1) / 2 := by omega
          rw [if_neg hg, if_neg hg2]
          have ha := h1 ((j - 1) / 2) h0i hi (by omega)
          by_cases e : k = j
          · rw [if_pos e]; exact ha
          · rw [if_neg e, if_neg (by omega)]
            have := h1 k hk hl e
            rw [hp] at this; omega)
        exact ⟨r1, r2.trans (swp_perm hi hj)⟩

theorem push_law {hs : List Int} {x : Int} (h : IsHp hs) : IsHp (hup (hs ++ [x]) hs.length) ∧ (hup (hs ++ [x]) hs.length).Perm (hs ++ [x]) := by
  refine hup_law hs.length (hs ++ [x]) (by simp) ?_ ?_
  · intro k hk hl hne
    have hk2 : k < hs.length := by simp at hl; omega
    have := h k hk hk2
    simpa [List.getD, List.getElem?_append_left, hk2, show (k - 1) / 2 < hs.length by omega] using this
  · intro k hk hl hp _
    simp at hl; omega

theorem kid_cases (xs : List Int) (m i : Nat) (h : 2 * i + 1 < m) : (kid xs m i = 2 * i + 1 ∨ kid xs m i = 2 * i + 2) ∧ kid xs m i < m ∧ ∀ k, (k - 1) / 2 = i → 0 < k → k < m → xs.getD (kid xs m i) 0 ≤ xs.getD k 0 := by
  unfold kid
  by_cases hc : 2 * i + 2 < m ∧ ltB xs (2 * i + 2) (2 * i + 1) = true
  · rw [if_pos hc]
    refine ⟨.inr rfl, hc.1, fun k hp hk hl => ?_⟩
    have := ltB_iff.1 hc.2
    rcases (show k = 2 * i + 1 ∨ k = 2 * i + 2 by omega) with rfl | rfl <;> omega
  · rw [if_neg hc]
    refine ⟨.inl rfl, h, fun k hp hk hl => ?_⟩
    rcases (show k = 2 * i + 1 ∨ k = 2 * i + 2 by omega) with rfl | rfl
    · omega
    · have : ltB xs (2 * i + 2) (2 * i + 1) = false := by
        cases hb : ltB xs (2 * i + 2) (2 * i + 1) with
        | false => rfl
        | true => exact absurd ⟨hl, hb⟩ hc
      exact ltB_not.1 this

theorem hdn_law (d : Nat) : ∀ (xs : List Int) (m i : Nat), m - i = d → m ≤ xs.length → i < xs.length → (∀ k, 0 < k → k < m → (k - 1) / 2 ≠ i → xs.getD ((k - 1) / 2) 0 ≤ xs.getD k 0) →
    (∀ k, 0 < k → k < m → (k - 1) / 2 = i → 0 < i → xs.getD ((i - 1) / 2) 0 ≤ xs.getD k 0) → IsHpTo (hdn xs m i) m ∧ (hdn xs m i).Perm xs ∧ ∀ k, m ≤ k → k ≠ i → (hdn xs m i).getD k 0 = xs.getD k 0 := by
  induction d using Nat.strongRecOn with
  | _ d ih =>
    intro xs m i hd hm hil h1 h2
    by_cases h0 : 2 * i + 1 < m
    · obtain ⟨k1, k2, k3⟩ := kid_cases xs m i h0
      generalize hkj : kid xs m i = j at k1 k2 k3
      cases hb : ltB xs j i with
      | false =>
        rw [hdn_stop _ _ _ _ h0 hkj hb]
        rw [ltB_not] at hb
        refine ⟨fun k hk hl => ?_, List.Perm.refl _, fun _ _ _ => rfl⟩
        by_cases e : (k - 1) / 2 = i
        · have := k3 k e hk hl; rw [e]; omega
        · exact h1 k hk hl e
      | true =>
        rw [hdn_go _ _ _ _ h0 hkj hb]
        rw [ltB_iff] at hb
        have hj : j < xs.length := by omega
        have hi : i < xs.length := by omega
        have hpj : (j - 1) / 2 = i := by omega
        obtain ⟨r1, r2, r3⟩ := ih (m - j) (by omega) (swp xs i j) m j rfl (by rw [swp_length]; exact hm) (by rw [swp_length]; exact hj) (by
          intro k hk hl hne
          rw [swp_get hi hj, swp_get hi hj]
          rw [if_neg hne]
          by_cases e : k = j
          · subst e; rw [if_pos rfl, if_pos hpj]; omega
          · rw [if_neg e]
            by_cases e2 : k = i
            · subst e2
              rw [if_pos rfl, if_neg (by omega)]
              exact h2 j (by omega) k2 hpj hk
            · rw [if_neg e2]
              by_cases e3 : (k - 1) / 2 = i
              · rw [if_pos e3]; exact k3 k e3 hk hl
              · rw [if_neg e3]; exact h1 k hk hl e3) (by
          intro k hk hl hp _
          rw [swp_get hi hj, swp_get hi hj]
          rw [if_neg (by omega), if_pos hpj, if_neg (by omega), if_neg (by omega)]
          have := h1 k hk hl (by omega)
          rw [hp] at this; exact this)
        refine ⟨r1, r2.trans (swp_perm hi hj), fun k hk hne => ?_⟩
        rw [r3 k hk (by omega), swp_get hi hj, if_neg (by omega), if_neg (by omega)]
    · rw [hdn_end _ _ _ h0]
      exact ⟨fun k hk hl => h1 k hk hl (by omega), List.Perm.refl _, fun _ _ _ => rfl⟩

theorem pop_law {hs : List Int} {n : Nat} (hl : hs.length = n + 1) (h : IsHp hs) :
    IsHp ((hdn (swp hs 0 n) n 0).take n) ∧ (hs.getD 0 0 :: (hdn (swp hs 0 n) n 0).take n).Perm hs := by
  obtain ⟨r1, r2, r3⟩ := hdn_law (n - 0) (swp hs 0 n) n 0 rfl (by rw [swp_length]; omega) (by rw [swp_length]; omega) (by
    intro k hk hl' hp
    rw [swp_get (by omega) (by omega), swp_get (by omega) (by omega), if_neg (by omega), if_neg hp, if_neg (by omega), if_neg (by omega)]
    exact h k hk (by omega)) (by intro k _ _ _ h0; omega)
  have hlen : (hdn (swp hs 0 n) n 0).length = n + 1 := by rw [hdn_length, swp_length, hl]
  refine ⟨?_, ?_⟩
  · intro k hk hkl
    have hkn : k < n := by simp at hkl; omega
    have := r1 k hk hkn
    simpa [List.getD, List.getElem?_take, hkn, show (k - 1) / 2 < n by omega] using this
  · have e1 : hdn (swp hs 0 n) n 0 = (hdn (swp hs 0 n) n 0).take n ++ [hs.getD 0 0] := by
      have hlast : (hdn (swp hs 0 n) n 0)[n]'(by omega) = hs.getD 0 0 := by
        by_cases hn0 : n = 0
        · subst hn0
          have e : hdn (swp hs 0 0) 0 0 = swp hs 0 0 := hdn_end _ _ _ (by omega)
          have : (swp hs 0 0).getD 0 0 = hs.getD 0 0 := by rw [swp_get (by omega) (by omega), if_pos rfl]
          rw [← this]
          simp only [e]
          rw [List.getD_eq_getElem?_getD, List.getElem?_eq_getElem (by rw [swp_length]; omega)]; rfl
        · have := r3 n (Nat.le_refl _) hn0
          rw [swp_get (by omega) (by omega), if_pos rfl] at this
          rw [← this, List.getD_eq_getElem?_getD, List.getElem?_eq_getElem (by omega)]; rfl
      have := List.take_succ_eq_append_getElem (l := hdn (swp hs 0 n) n 0) (i := n) (by omega)
      rw [List.take_of_length_le (by omega), hlast] at this
      exact this
    refine List.Perm.trans ?_ (r2.trans (swp_perm (by omega) (by omega)))
    generalize (hdn (swp hs 0 n) n 0).take n = L at e1 ⊢
    rw [e1]
    exact (List.perm_append_singleton _ _).symm

end Go.Proofs.Ytaheafmdkbobcaa
