/- A trie, plain: what stands at each path. -/
import Derived.Test.YtcolffccbmpndaaGreatDoorOwn
namespace Go.Proofs.YtcolffccbmpndaaGreatDoor

/-- A step down: a hole, or a byte. -/
abbrev Hop := Option Int
abbrev Path := List Hop
/-- What stands at the nodes. -/
abbrev Cont := Path → Option (List Int)

theorem pre_snoc_iff {p : Path} {s : Hop} {q : Path} : q <+: p ++ [s] ↔ q <+: p ∨ q = p ++ [s] := by
  constructor
  · rintro ⟨t, ht⟩
    rcases List.eq_nil_or_concat t with rfl | ⟨u, x, rfl⟩
    · right; simpa using ht
    · left
      rw [List.concat_eq_append, ← List.append_assoc] at ht
      exact ⟨u, (List.append_inj' ht rfl).1⟩
  · rintro (h | rfl)
    · exact h.trans (List.prefix_append _ _)
    · exact List.prefix_refl _
theorem pre_hop {q p : Path} {s : Hop} : (q ++ [s]) <+: p ↔ ∃ t, p = q ++ s :: t := by
  constructor
  · rintro ⟨t, rfl⟩; exact ⟨t, by simp⟩
  · rintro ⟨t, rfl⟩; exact ⟨t, by simp⟩
theorem pre_cases {q p : Path} (h : q <+: p) : p = q ∨ ∃ s, (q ++ [s]) <+: p := by
  obtain ⟨t, rfl⟩ := h
  cases t with
  | nil => left; simp
  | cons s t => right; exact ⟨s, t, by simp⟩

/-- All beginnings of a node are nodes. -/
def Up (C : Cont) : Prop := ∀ q s, C (q ++ [s]) ≠ none → C q ≠ none
theorem Up.pre {C : Cont} (h : Up C) : ∀ {q p : Path}, q <+: p → C p ≠ none → C q ≠ none := by
  intro q p ⟨t, ht⟩
  subst ht
  induction t generalizing q with
  | nil => simp
  | cons s t ih =>
    intro hc
    refine h q s (ih (q := q ++ [s]) ?_)
    simpa using hc

/-- The nodes on the way are there. -/
def growC (C : Cont) (p : Path) : Cont := fun q => if q <+: p then some ((C q).getD []) else C q
def addC (C : Cont) (p : Path) (id : Int) : Cont := fun q => if q <+: p then some ((C q).getD [] ++ if q = p then [id] else []) else C q
def delC (C : Cont) (p : Path) (id : Int) : Cont := fun q => if q = p then (C q).map (List.filter (fun x => id != x)) else C q
theorem growC_nil {C : Cont} (h : C [] ≠ none) : growC C [] = C := by
  funext q
  unfold growC
  by_cases e : q <+: []
  · obtain rfl := List.prefix_nil.1 e
    rw [if_pos e]
    cases hc : C [] with
    | none => exact absurd hc h
    | some l => rfl
  · rw [if_neg e]
theorem growC_snoc (C : Cont) (p : Path) (s : Hop) : growC C (p ++ [s]) = fun q => if q = p ++ [s] then some ((C q).getD []) else growC C p q := by
  funext q
  unfold growC
  by_cases e1 : q = p ++ [s]
  · rw [if_pos e1, if_pos (by rw [e1]; exact List.prefix_refl _)]
  · rw [if_neg e1]
    by_cases e2 : q <+: p
    · rw [if_pos e2, if_pos (pre_snoc_iff.2 (.inl e2))]
    · rw [if_neg e2, if_neg (fun h => by rcases pre_snoc_iff.1 h with h | h; exact e2 h; exact e1 h)]
theorem addC_of_grow (C : Cont) (p : Path) (id : Int) : addC C p id = fun q => if q = p then some ((C p).getD [] ++ [id]) else growC C p q := by
  funext q
  unfold addC growC
  by_cases e1 : q = p
  · subst e1; simp
  · by_cases e2 : q <+: p
    · simp [e1, e2]
    · simp [e1, e2]
theorem delC_none {C : Cont} {p : Path} (h : C p = none) (id : Int) : delC C p id = C := by
  funext q
  unfold delC
  by_cases e : q = p
  · rw [if_pos e, e, h]; rfl
  · rw [if_neg e]

/-- A number stands at or below a path. -/
def Live (C : Cont) (p : Path) : Prop := ∃ t l, C (p ++ t) = some l ∧ l ≠ []
/-- What stands below no number goes; b: the path itself too. -/
noncomputable def pruneC (C : Cont) (q : Path) : Cont := fun p => open Classical in if (q <+: p ∧ p ≠ q) ∧ ¬ Live C p then none else C p
theorem Live.up {C : Cont} {q t : Path} (h : Live C (q ++ t)) : Live C q := by
  obtain ⟨u, l, h1, h2⟩ := h
  exact ⟨t ++ u, l, by rw [← List.append_assoc]; exact h1, h2⟩
theorem not_live_pre {C : Cont} {q p : Path} (h : ¬ Live C q) (hp : q <+: p) : ¬ Live C p := by
  obtain ⟨t, rfl⟩ := hp
  exact fun hl => h hl.up
theorem live_one {C : Cont} {p : Path} {l : List Int} (h : C p = some l) (hl : l ≠ []) : Live C p := ⟨[], l, by simpa using h, hl⟩
/-- Where what is struck is not alive, the living stay so. -/
theorem live_strike {C D : Cont} (h : ∀ p, D p = C p ∨ (D p = none ∧ ¬ Live C p)) (p : Path) : Live D p ↔ Live C p := by
  constructor
  · rintro ⟨t, l, h1, h2⟩
    rcases h (p ++ t) with h3 | ⟨h3, -⟩
    · exact ⟨t, l, by rw [← h3]; exact h1, h2⟩
    · rw [h3] at h1; simp at h1
  · rintro ⟨t, l, h1, h2⟩
    rcases h (p ++ t) with h3 | ⟨h3, h4⟩
    · exact ⟨t, l, by rw [h3]; exact h1, h2⟩
    · exact absurd (live_one h1 h2) h4

/-- A prefix with holes begins a key. -/
def fitsP : Path → List Int → Bool
  | [], _ => true
  | _ :: _, [] => false
  | none :: p, _ :: k => fitsP p k
  | some b :: p, c :: k => (b == c) && fitsP p k
/-- The numbers that are found below a path. -/
def Found (C : Cont) (q : Path) (key : List Int) (x : Int) : Prop := ∃ p l, C (q ++ p) = some l ∧ x ∈ l ∧ fitsP p key = true
theorem found_nil {C : Cont} {q : Path} {x : Int} : Found C q [] x ↔ ∃ l, C q = some l ∧ x ∈ l := by
  constructor
  · rintro ⟨p, l, h1, h2, h3⟩
    cases p with
    | nil => exact ⟨l, by simpa using h1, h2⟩
    | cons s p => cases s <;> simp [fitsP] at h3
  · rintro ⟨l, h1, h2⟩
    exact ⟨[], l, by simpa using h1, h2, rfl⟩
theorem found_cons {C : Cont} {q : Path} {c : Int} {k : List Int} {x : Int} : Found C q (c :: k) x ↔ (∃ l, C q = some l ∧ x ∈ l) ∨ Found C (q ++ [none]) k x ∨ Found C (q ++ [some c]) k x := by
  constructor
  · rintro ⟨p, l, h1, h2, h3⟩
    cases p with
    | nil => exact .inl ⟨l, by simpa using h1, h2⟩
    | cons s p =>
      cases s with
      | none => exact .inr (.inl ⟨p, l, by simpa using h1, h2, by simpa [fitsP] using h3⟩)
      | some b =>
        rw [fitsP, Bool.and_eq_true, beq_iff_eq] at h3
        obtain ⟨rfl, h4⟩ := h3
        exact .inr (.inr ⟨p, l, by simpa using h1, h2, h4⟩)
  · rintro (⟨l, h1, h2⟩ | ⟨p, l, h1, h2, h3⟩ | ⟨p, l, h1, h2, h3⟩)
    · exact ⟨[], l, by simpa using h1, h2, by simp [fitsP]⟩
    · exact ⟨none :: p, l, by simpa using h1, h2, by simpa [fitsP] using h3⟩
    · exact ⟨some c :: p, l, by simpa using h1, h2, by simp [fitsP, h3]⟩
theorem found_none {C : Cont} {q : Path} (hu : Up C) (h : C q = none) (k : List Int) (x : Int) : ¬ Found C q k x := by
  rintro ⟨p, l, h1, -, -⟩
  exact hu.pre (List.prefix_append q p) (by rw [h1]; simp) h

end Go.Proofs.YtcolffccbmpndaaGreatDoor
