/- Indices that are done in some order: the plain law. -/
import Derived.Test.YtaheafmdkbobcaaManyP
namespace Go.Proofs.Ytaheafmdkbobcaa

/-- The indices from t + 1 on, m of them, each with its count. -/
def plF (f : Nat → Int) (t m : Nat) : List (Int × Int) := (List.range' (t + 1) m).map (fun i : Nat => ((i : Int), f i))

theorem plF_succ (f : Nat → Int) (t m : Nat) : plF f t (m + 1) = (((t + 1 : Nat) : Int), f (t + 1)) :: plF f (t + 1) m := by
  unfold plF; rw [List.range'_succ]; rfl

theorem plF_mem {f : Nat → Int} {t m : Nat} {p : Int × Int} (h : p ∈ plF f t m) : ∃ i : Nat, t < i ∧ i ≤ t + m ∧ p = ((i : Int), f i) := by
  obtain ⟨i, hi, rfl⟩ := List.mem_map.1 h
  rw [List.mem_range'_1] at hi
  exact ⟨i, by omega, by omega, rfl⟩

theorem plF_len (f : Nat → Int) (t m : Nat) : (plF f t m).length = m := by simp [plF]

theorem minKey_head {p : Int × Int} {l : List (Int × Int)} (h : ∀ q ∈ l, p.1 < q.1) : minKey (p :: l) = some p := by
  unfold minKey
  cases hm : minKey l with
  | none => rfl
  | some q =>
    have := h q (minKey_spec hm).1
    simp only
    rw [if_neg (by omega)]

theorem plF_filter (f : Nat → Int) (t m : Nat) : (plF f t (m + 1)).filter (fun q => q.1 != ((t + 1 : Nat) : Int)) = plF f (t + 1) m := by
  rw [plF_succ, List.filter_cons_of_neg (by simp), List.filter_eq_self]
  intro q hq
  obtain ⟨i, h1, h2, rfl⟩ := plF_mem hq
  simp only [bne_iff_ne, ne_eq]
  omega

/-- Up to where counts are none. -/
def lead (f : Nat → Int) : Nat → Nat → Nat
  | t, 0 => t
  | t, m + 1 => if 0 < f (t + 1) then t else lead f (t + 1) m

theorem lead_spec (f : Nat → Int) : ∀ (m t : Nat), t ≤ lead f t m ∧ lead f t m ≤ t + m ∧ (∀ i, t < i → i ≤ lead f t m → ¬ 0 < f i) ∧ (lead f t m = t + m ∨ 0 < f (lead f t m + 1))
  | 0, t => ⟨Nat.le_refl _, Nat.le_refl _, fun i h1 h2 => by unfold lead at h2; omega, .inl rfl⟩
  | m + 1, t => by
    unfold lead
    by_cases h : 0 < f (t + 1)
    · rw [if_pos h]
      exact ⟨Nat.le_refl _, by omega, fun i h1 h2 => by omega, .inr h⟩
    · rw [if_neg h]
      obtain ⟨a, b, c, d⟩ := lead_spec f m (t + 1)
      refine ⟨by omega, by omega, fun i h1 h2 => ?_, ?_⟩
      · by_cases e : i = t + 1
        · rw [e]; exact h
        · exact c i (by omega) h2
      · rcases d with d | d
        · left; omega
        · right; exact d

theorem drain_lead (f : Nat → Int) : ∀ (m t k : Nat), m ≤ k → drainP k (plF f t m) t = (plF f (lead f t m) (t + m - lead f t m), ((lead f t m : Nat) : Int))
  | 0, t, k, _ => by
    have e : t + 0 - lead f t 0 = 0 := by unfold lead; omega
    rw [e]
    unfold lead
    cases k <;> rfl
  | m + 1, t, 0, h => by omega
  | m + 1, t, k + 1, h => by
    have hm : minKey (plF f t (m + 1)) = some (((t + 1 : Nat) : Int), f (t + 1)) := by
      rw [plF_succ]
      refine minKey_head (fun q hq => ?_)
      obtain ⟨i, h1, h2, rfl⟩ := plF_mem hq
      simp only
      omega
    unfold drainP
    rw [hm]
    simp only
    by_cases h0 : 0 < f (t + 1)
    · have e : lead f t (m + 1) = t := by unfold lead; rw [if_pos h0]
      rw [if_pos h0, e]
      have e2 : t + (m + 1) - t = m + 1 := by omega
      rw [e2]
    · have e : lead f t (m + 1) = lead f (t + 1) m := by rw [lead, if_neg h0]
      rw [if_neg h0, plF_filter, drain_lead f m (t + 1) k (by omega), e]
      have e2 : t + 1 + m = t + (m + 1) := by omega
      rw [e2]

theorem plF_cnt (f : Nat → Int) : ∀ (m t x : Nat), t < x → x ≤ t + m → cnt? (plF f t m) (x : Int) = some (f x)
  | 0, t, x, h1, h2 => by omega
  | m + 1, t, x, h1, h2 => by
    rw [plF_succ]
    unfold cnt?
    by_cases e : x = t + 1
    · subst e; simp
    · rw [List.find?_cons_of_neg (by simp only [beq_iff_eq]; omega)]
      exact plF_cnt f m (t + 1) x (by omega) (by omega)

theorem plF_cnt_none (f : Nat → Int) (m t x : Nat) (h : t + m < x) : cnt? (plF f t m) (x : Int) = none := by
  unfold cnt?
  rw [Option.map_eq_none_iff, List.find?_eq_none]
  intro p hp
  obtain ⟨i, h1, h2, rfl⟩ := plF_mem hp
  simp only [beq_iff_eq]
  omega

theorem plF_put (f : Nat → Int) (t m x : Nat) (c : Int) (h1 : t < x) (h2 : x ≤ t + m) : putC (plF f t m) (x : Int) c = plF (fun i => if i = x then c else f i) t m := by
  unfold putC
  rw [plF_cnt f m t x h1 h2, Option.isSome_some, if_pos rfl]
  unfold plF
  rw [List.map_map]
  apply List.map_congr_left
  intro i _
  simp only [Function.comp_apply]
  by_cases e : i = x
  · subst e; simp
  · rw [if_neg (by omega), if_neg e]

theorem plF_congr {f g : Nat → Int} (h : ∀ i, f i = g i) (t m : Nat) : plF f t m = plF g t m := by
  have : f = g := funext h
  rw [this]

theorem sum_update (x : Nat) (f : Nat → Int) : ∀ (l : List Nat), l.Nodup → x ∈ l → (l.map (fun i => if i = x then 0 else f i)).sum + f x = (l.map f).sum
  | [], _, h => by simp at h
  | a :: l, hn, h => by
    rw [List.nodup_cons] at hn
    simp only [List.map_cons, List.sum_cons]
    by_cases e : a = x
    · subst e
      have : l.map (fun i => if i = a then 0 else f i) = l.map f := by
        apply List.map_congr_left
        intro i hi
        rw [if_neg (fun e => hn.1 (by rw [← e]; exact hi))]
      rw [this]; simp; omega
    · have hx : x ∈ l := by
        rcases List.mem_cons.1 h with h | h
        · exact absurd h.symm e
        · exact h
      have := sum_update x f l hn.2 hx
      rw [if_neg e]; omega

/-- The steps. -/
def orB (k : Nat) : List Stp := (List.range k).map (fun i : Nat => (⟨0, (i : Int) + 1, []⟩ : Stp))
def orD (l : List Int) : List Stp := l.map (fun x => (⟨2, x, []⟩ : Stp))
def orL (n : Nat) (l : List Int) : List Stp := orB n ++ orD l

theorem orB_succ (k : Nat) : orB (k + 1) = orB k ++ [⟨0, (k : Int) + 1, []⟩] := by simp [orB, List.range_succ]

/-- An order of the indices from 1 on. -/
structure IsOrd (l : List Int) : Prop where
  nd : l.Nodup
  b : ∀ x ∈ l, 1 ≤ x ∧ x ≤ l.length

def fO (l : List Int) (j : Nat) (i : Nat) : Int := if (i : Int) ∈ l.take j then 0 else 1
/-- The mark behind j dones. -/
def uO (l : List Int) : Nat → Nat
  | 0 => 0
  | j + 1 => lead (fO l (j + 1)) (uO l j) (l.length - uO l j)

theorem or_begin (n : Nat) : ∀ k, after (new0, []) (orB k) = (⟨0, (k : Int), plF (fun _ => 1) 0 k, []⟩, [])
  | 0 => rfl
  | k + 1 => by
    rw [orB_succ, after_app, or_begin n k]
    have hc : cnt? (plF (fun _ => 1) 0 k) ((k : Int) + 1) = none := by
      have := plF_cnt_none (fun _ => 1) k 0 (k + 1) (by omega)
      simpa using this
    have hp : plF (fun _ => 1) 0 (k + 1) = plF (fun _ => 1) 0 k ++ [((k : Int) + 1, 1)] := by
      unfold plF
      rw [List.range'_concat]
      simp
      omega
    show stp _ _ = _
    rw [stp_0]
    simp only [next1, Bool.false_eq_true, if_false, putC, hc, Option.isSome_none, Option.getD_none, hp]
    simp

theorem fO_0 (l : List Int) (i : Nat) : fO l 0 i = 1 := by simp [fO]

theorem uO_facts {l : List Int} (h : IsOrd l) : ∀ j, j ≤ l.length → uO l j ≤ l.length ∧ (∀ i, 1 ≤ i → i ≤ uO l j → (i : Int) ∈ l.take j) ∧ (uO l j = l.length ∨ ¬ ((uO l j + 1 : Nat) : Int) ∈ l.take j)
  | 0, _ => ⟨Nat.zero_le _, fun i h1 h2 => by unfold uO at h2; omega, .inr (by simp)⟩
  | j + 1, hj => by
    obtain ⟨a, b, -⟩ := uO_facts h j (by omega)
    obtain ⟨p, q, r, s⟩ := lead_spec (fO l (j + 1)) (l.length - uO l j) (uO l j)
    have e : uO l (j + 1) = lead (fO l (j + 1)) (uO l j) (l.length - uO l j) := rfl
    rw [← e] at p q r s
    refine ⟨by omega, fun i h1 h2 => ?_, ?_⟩
    · by_cases hi : i ≤ uO l j
      · exact (List.take_subset_take_left l (by omega)) (b i h1 hi)
      · have := r i (by omega) h2
        unfold fO at this
        split at this
        · assumption
        · exact absurd Int.one_pos this
    · rcases s with s | s
      · left; omega
      · right
        intro hm
        unfold fO at s
        rw [if_pos hm] at s
        omega

theorem uO_mono {l : List Int} (j : Nat) : uO l j ≤ uO l (j + 1) := (lead_spec _ _ _).1

theorem or_done {l : List Int} (h : IsOrd l) : ∀ j, j ≤ l.length → after (new0, []) (orB l.length ++ orD (l.take j)) = (⟨(uO l j : Nat), (l.length : Nat), plF (fO l j) (uO l j) (l.length - uO l j), []⟩, [])
  | 0, _ => by
    rw [List.take_zero]
    show after _ (orB l.length ++ []) = _
    rw [List.append_nil, or_begin l.length]
    have : plF (fO l 0) (uO l 0) (l.length - uO l 0) = plF (fun _ => 1) 0 l.length := plF_congr (fO_0 l) 0 l.length
    rw [this]; rfl
  | j + 1, hj => by
    obtain ⟨a, b, -⟩ := uO_facts h j (by omega)
    have ht := take_getD l 0 (k := j) (by omega)
    have hx : l.getD j 0 ∈ l := by rw [List.getD_eq_getElem?_getD, List.getElem?_eq_getElem (by omega)]; exact List.getElem_mem _
    obtain ⟨x, hxe⟩ : ∃ x : Nat, l.getD j 0 = x := ⟨(l.getD j 0).toNat, by have := (h.b _ hx).1; omega⟩
    rw [hxe] at ht hx
    have hnx : ¬ (x : Int) ∈ l.take j := by
      have hn : (l.take (j + 1)).Nodup := h.nd.sublist (List.take_sublist _ _)
      rw [ht, List.nodup_append] at hn
      intro hm
      exact hn.2.2 _ hm _ (List.mem_singleton.2 rfl) rfl
    have hb := h.b _ hx
    have hu : uO l j < x := by
      rcases Nat.lt_or_ge (uO l j) x with h1 | h1
      · exact h1
      · exact absurd (b x (by omega) h1) hnx
    have hxn : x ≤ uO l j + (l.length - uO l j) := by omega
    have hf1 : fO l j x = 1 := by unfold fO; rw [if_neg hnx]
    have hcg : ∀ i, (fun i => if i = x then (0 : Int) else fO l j i) i = fO l (j + 1) i := by
      intro i
      unfold fO
      rw [ht]
      simp only [List.mem_append, List.mem_singleton]
      by_cases e : i = x
      · subst e; simp
      · rw [if_neg e]
        have : ¬ (i : Int) = x := by omega
        simp [this]
    have hL : orB l.length ++ orD (l.take (j + 1)) = (orB l.length ++ orD (l.take j)) ++ [⟨2, (x : Int), []⟩] := by rw [ht, orD, List.map_append, ← List.append_assoc]; rfl
    rw [hL, after_app, or_done h j (by omega)]
    show stp _ _ = _
    rw [stp_2]
    simp only [next1, if_true, plF_cnt (fO l j) _ _ x hu hxn, Option.getD_some, hf1, plF_put (fO l j) _ _ x _ hu hxn, plF_len]
    have e0 : (1 : Int) - 1 = 0 := rfl
    rw [e0, plF_congr hcg, drain_lead _ _ _ _ (Nat.le_refl _)]
    have e : uO l (j + 1) = lead (fO l (j + 1)) (uO l j) (l.length - uO l j) := rfl
    rw [e]
    have e2 : uO l j + (l.length - uO l j) = l.length := by omega
    rw [e2]

theorem sum_fO {l : List Int} (h : IsOrd l) : ∀ j, j ≤ l.length → ((List.range' 1 l.length).map (fO l j)).sum = (l.length : Int) - j
  | 0, _ => by
    have : (List.range' 1 l.length).map (fO l 0) = List.replicate l.length 1 := by
      rw [List.eq_replicate_iff]
      refine ⟨by simp, fun b hb => ?_⟩
      obtain ⟨i, -, rfl⟩ := List.mem_map.1 hb
      exact fO_0 l i
    rw [this]
    generalize l.length = n
    induction n with
    | zero => rfl
    | succ n ih => rw [List.replicate_succ, List.sum_cons, ih]; omega
  | j + 1, hj => by
    have ih := sum_fO h j (by omega)
    have ht := take_getD l 0 (k := j) (by omega)
    have hx : l.getD j 0 ∈ l := by rw [List.getD_eq_getElem?_getD, List.getElem?_eq_getElem (by omega)]; exact List.getElem_mem _
    obtain ⟨x, hxe⟩ : ∃ x : Nat, l.getD j 0 = x := ⟨(l.getD j 0).toNat, by have := (h.b _ hx).1; omega⟩
    rw [hxe] at ht hx
    have hnx : ¬ (x : Int) ∈ l.take j := by
      have hn : (l.take (j + 1)).Nodup := h.nd.sublist (List.take_sublist _ _)
      rw [ht, List.nodup_append] at hn
      intro hm
      exact hn.2.2 _ hm _ (List.mem_singleton.2 rfl) rfl
    have hb := h.b _ hx
    have hf1 : fO l j x = 1 := by unfold fO; rw [if_neg hnx]
    have hcg : (fun i => if i = x then (0 : Int) else fO l j i) = fO l (j + 1) := by
      funext i
      unfold fO
      rw [ht]
      simp only [List.mem_append, List.mem_singleton]
      by_cases e : i = x
      · subst e; simp
      · rw [if_neg e]
        have : ¬ (i : Int) = x := by omega
        simp [this]
    have hs := sum_update x (fO l j) (List.range' 1 l.length) List.nodup_range' (by rw [List.mem_range'_1]; omega)
    rw [hcg, hf1, ih] at hs
    omega

theorem sum_zero {f : Nat → Int} : ∀ {l : List Nat}, (∀ i, 0 ≤ f i) → (l.map f).sum = 0 → ∀ i ∈ l, f i = 0
  | [], _, _, i, hi => by simp at hi
  | a :: l, h0, hs, i, hi => by
    simp only [List.map_cons, List.sum_cons] at hs
    have h1 : 0 ≤ (l.map f).sum := by
      clear hs hi
      induction l with
      | nil => simp
      | cons b l ih => simp only [List.map_cons, List.sum_cons]; have := h0 b; omega
    have h2 := h0 a
    rcases List.mem_cons.1 hi with rfl | hi
    · omega
    · exact sum_zero h0 (by omega) i hi

theorem uO_end {l : List Int} (h : IsOrd l) : uO l l.length = l.length := by
  obtain ⟨a, -, c⟩ := uO_facts h l.length (Nat.le_refl _)
  rcases c with c | c
  · exact c
  · by_cases hl : uO l l.length = l.length
    · exact hl
    · exfalso
      have hs := sum_fO h l.length (Nat.le_refl _)
      have hz := sum_zero (f := fO l l.length) (l := List.range' 1 l.length) (fun i => by unfold fO; split <;> omega) (by omega)
      have := hz (uO l l.length + 1) (by rw [List.mem_range'_1]; omega)
      unfold fO at this
      rw [if_neg c] at this
      omega

end Go.Proofs.Ytaheafmdkbobcaa
