/- Indices that begin, or are done, together do so one after the other: the plain law. -/
import Derived.Test.YtaheafmdkbobcaaBoth
namespace Go.Proofs.Ytaheafmdkbobcaa

/-- A step, each of its indices by itself. -/
def flat (p : Stp) : List Stp := if p.kind = 1 ∨ p.kind = 3 then p.many.map (fun k => ⟨p.kind - 1, k, []⟩) else [p]
def FL (L : List Stp) : List Stp := L.flatMap flat

theorem after_app (q : MSt × List Int) (A B : List Stp) : after q (A ++ B) = after (after q A) B := List.foldl_append ..

/-- All steps may be taken, one after the other. -/
def okL : MSt × List Int → List Stp → Prop
  | _, [] => True
  | q, p :: l => okStp q.1 q.2 p ∧ okL (stp q p) l

theorem okL_app : ∀ (A B : List Stp) (q : MSt × List Int), okL q (A ++ B) ↔ okL q A ∧ okL (after q A) B
  | [], B, q => by simp [okL, after]
  | p :: A, B, q => by
    have := okL_app A B (stp q p)
    simp only [List.cons_append, okL, this, and_assoc]
    rfl

theorem okL_at : ∀ (L : List Stp) (q : MSt × List Int), okL q L ↔ ∀ k, k < L.length → okStp (after q (L.take k)).1 (after q (L.take k)).2 (L.getD k default)
  | [], q => by simp [okL]
  | p :: L, q => by
    have h := okL_at L (stp q p)
    simp only [okL, h]
    constructor
    · rintro ⟨h1, h2⟩ k hk
      cases k with
      | zero => exact h1
      | succ k => exact h2 k (by simpa using hk)
    · intro h1
      exact ⟨h1 0 (by simp), fun k hk => h1 (k + 1) (by simpa using hk)⟩

theorem okRun_iff (L : List Stp) : okRun L ↔ okL (new0, []) L := by rw [okL_at]; rfl

theorem after_begins : ∀ (zs : List Int) (q : MSt × List Int), after q (zs.map fun k => (⟨0, k, []⟩ : Stp)) = (foldB q.1 zs, q.2)
  | [], q => rfl
  | z :: zs, q => by
    show after (stp q ⟨0, z, []⟩) _ = _
    rw [after_begins zs, stp_0]
    rfl

theorem after_dones : ∀ (zs : List Int) (q : MSt × List Int), after q (zs.map fun k => (⟨2, k, []⟩ : Stp)) = (nextMany q.1 zs true, q.2)
  | [], q => rfl
  | z :: zs, q => by
    show after (stp q ⟨2, z, []⟩) _ = _
    rw [after_dones zs, stp_2]
    rfl

theorem okL_begins : ∀ (zs : List Int) (q : MSt × List Int), okMany q.1 zs false → okL q (zs.map fun k => (⟨0, k, []⟩ : Stp))
  | [], _, _ => trivial
  | z :: zs, q, h => by
    refine ⟨.inl ⟨rfl, h.1.2 rfl⟩, ?_⟩
    rw [stp_0]
    refine okL_begins zs _ ?_
    show okMany (next1 { q.1 with last := z } z false) zs false
    rw [next1_setlast]
    exact okMany_last _ _ _ _ h.2

theorem okL_dones : ∀ (zs : List Int) (q : MSt × List Int), okMany q.1 zs true → okL q (zs.map fun k => (⟨2, k, []⟩ : Stp))
  | [], _, _ => trivial
  | z :: zs, q, h => by
    refine ⟨.inr (.inr (.inl ⟨rfl, h.1.1 rfl⟩)), ?_⟩
    rw [stp_2]
    exact okL_dones zs _ h.2

theorem flat_step {q : MSt × List Int} {p : Stp} (h : okStp q.1 q.2 p) : after q (flat p) = stp q p ∧ okL q (flat p) ∧ 0 < (flat p).length := by
  obtain ⟨kd, ix, zs⟩ := p
  have hd : (kd ≠ 1 ∧ kd ≠ 3) → after q (flat ⟨kd, ix, zs⟩) = stp q ⟨kd, ix, zs⟩ ∧ okL q (flat ⟨kd, ix, zs⟩) ∧ 0 < (flat ⟨kd, ix, zs⟩).length := by
    intro hk
    have e : flat ⟨kd, ix, zs⟩ = [⟨kd, ix, zs⟩] := by unfold flat; rw [if_neg (by simp only; omega)]
    rw [e]
    exact ⟨rfl, ⟨h, trivial⟩, by simp⟩
  by_cases h1 : kd = 1
  · subst h1
    have e : flat ⟨1, ix, zs⟩ = zs.map fun k => (⟨0, k, []⟩ : Stp) := by unfold flat; rw [if_pos (.inl rfl)]; rfl
    have hz : 0 < zs.length ∧ okMany q.1 zs false := by
      rcases h with ⟨hk, _⟩ | ⟨_, h1, h2⟩ | ⟨hk, _⟩ | ⟨hk, _⟩ | hk | ⟨hk, _⟩
      · exact absurd hk (by simp)
      · exact ⟨h1, h2⟩
      · exact absurd hk (by simp)
      · exact absurd hk (by simp)
      · exact absurd hk (by simp)
      · exact absurd hk (by simp)
    rw [e, after_begins, stp_1, foldB_last _ hz.1]
    exact ⟨rfl, okL_begins zs q hz.2, by rw [List.length_map]; exact hz.1⟩
  by_cases h3 : kd = 3
  · subst h3
    have e : flat ⟨3, ix, zs⟩ = zs.map fun k => (⟨2, k, []⟩ : Stp) := by unfold flat; rw [if_pos (.inr rfl)]; rfl
    have hz : 0 < zs.length ∧ okMany q.1 zs true := by
      rcases h with ⟨hk, _⟩ | ⟨hk, _⟩ | ⟨hk, _⟩ | ⟨_, h1, h2⟩ | hk | ⟨hk, _⟩
      · exact absurd hk (by simp)
      · exact absurd hk (by simp)
      · exact absurd hk (by simp)
      · exact ⟨h1, h2⟩
      · exact absurd hk (by simp)
      · exact absurd hk (by simp)
    rw [e, after_dones, stp_3]
    exact ⟨rfl, okL_dones zs q hz.2, by rw [List.length_map]; exact hz.1⟩
  exact hd ⟨h1, h3⟩

theorem FL_app (A B : List Stp) : FL (A ++ B) = FL A ++ FL B := List.flatMap_append ..

theorem FL_run : ∀ (L : List Stp) (q : MSt × List Int), okL q L → after q (FL L) = after q L ∧ okL q (FL L)
  | [], _, _ => ⟨rfl, trivial⟩
  | p :: L, q, h => by
    obtain ⟨h1, h2, -⟩ := flat_step h.1
    obtain ⟨h3, h4⟩ := FL_run L (stp q p) h.2
    have e : FL (p :: L) = flat p ++ FL L := rfl
    rw [e, after_app, okL_app, h1]
    exact ⟨h3, h2, h4⟩

/-- The place of the last one of a step's own. -/
def endOf (L : List Stp) (i : Nat) : Nat := (FL (L.take (i + 1))).length - 1

theorem FL_len_succ {L : List Stp} {k : Nat} (hk : k < L.length) : FL (L.take (k + 1)) = FL (L.take k) ++ flat (L.getD k default) := by
  rw [take_getD L default hk, FL_app]
  simp [FL]

theorem FL_pos {L : List Stp} (h : okRun L) {i : Nat} (hi : i < L.length) : 0 < (FL (L.take (i + 1))).length := by
  have := (flat_step (h i hi)).2.2
  rw [FL_len_succ hi, List.length_append]
  omega

theorem FL_take {L : List Stp} (i : Nat) : (FL L).take (FL (L.take i)).length = FL (L.take i) := by
  conv => lhs; rw [← List.take_append_drop i L, FL_app]
  simp

theorem FL_le (L : List Stp) (i : Nat) : (FL (L.take i)).length ≤ (FL L).length := by
  have h : FL L = FL (L.take i) ++ FL (L.drop i) := by rw [← FL_app, List.take_append_drop]
  rw [h, List.length_append]
  omega

theorem FL_okRun {L : List Stp} (h : okRun L) : okRun (FL L) := (okRun_iff _).2 (FL_run L _ ((okRun_iff _).1 h)).2

theorem okRun_take {L : List Stp} (h : okRun L) (i : Nat) : okRun (L.take i) := by
  rw [okRun_iff] at h ⊢
  rw [← List.take_append_drop i L, okL_app] at h
  exact h.1

theorem FL_tells {L : List Stp} (h : okRun L) {i : Nat} (hi : i < L.length) : endOf L i < (FL L).length ∧ tells (FL L) (endOf L i) = tells L i := by
  have h0 := FL_pos h hi
  have h1 := FL_le L (i + 1)
  have e : endOf L i + 1 = (FL (L.take (i + 1))).length := by unfold endOf; omega
  refine ⟨by omega, ?_⟩
  unfold tells
  rw [e]
  congr 1
  unfold St
  rw [FL_take]
  exact (FL_run (L.take (i + 1)) _ ((okRun_iff _).1 (okRun_take h (i + 1)))).1

theorem flat_wt (p : Stp) : wt (flat p) ≤ 1 + p.many.length := by
  unfold flat
  split
  · unfold wt
    rw [List.map_map]
    have : (p.many.map ((fun p => 1 + p.many.length) ∘ fun k => (⟨p.kind - 1, k, []⟩ : Stp))).sum = p.many.length := by
      generalize p.many = zs
      induction zs with
      | nil => rfl
      | cons z zs ih => simp only [List.map_cons, List.sum_cons, ih, List.length_cons, Function.comp_apply, List.length_nil]; omega
    omega
  · simp [wt]

theorem FL_wt : ∀ (L : List Stp), wt (FL L) ≤ wt L
  | [] => Nat.le_refl _
  | p :: L => by
    have h1 := flat_wt p
    have h2 := FL_wt L
    have e : FL (p :: L) = flat p ++ FL L := rfl
    unfold wt at h1 h2 ⊢
    rw [e, List.map_append, List.sum_append, List.map_cons, List.sum_cons]
    omega

theorem len_wt : ∀ (L : List Stp), L.length ≤ wt L
  | [] => Nat.le_refl _
  | p :: L => by
    have h := len_wt L
    unfold wt at h ⊢
    rw [List.map_cons, List.sum_cons, List.length_cons]
    omega

end Go.Proofs.Ytaheafmdkbobcaa
