/- The sizes that levels should have, and the base level: plain. -/
import Derived.Test.YtdofgamahjmohaaOwn
namespace Go.Proofs.Ytdofgamahjmohaa

/-- The size of the last level, divided k times. -/
def dbF (t lt : Int) : Nat → Int
  | 0 => t
  | k + 1 => (dbF t lt k).tdiv lt
theorem dbF_nonneg {t lt : Int} (h : 0 ≤ t) (h1 : 1 ≤ lt) : ∀ k, 0 ≤ dbF t lt k
  | 0 => h
  | k + 1 => by unfold dbF; exact Int.tdiv_nonneg (dbF_nonneg h h1 k) (by omega)
theorem dbF_le {t lt : Int} (h : 0 ≤ t) (h1 : 1 ≤ lt) : ∀ k, dbF t lt k ≤ t
  | 0 => Int.le_refl _
  | k + 1 => by
    have h2 := dbF_nonneg h h1 k
    have h3 := dbF_le h h1 k
    unfold dbF
    rw [Int.tdiv_eq_ediv_of_nonneg h2]
    exact Int.le_trans (Int.ediv_le_self _ h2) h3
/-- The size that level i should have. -/
def tg (n : Nat) (t lt bl : Int) (i : Nat) : Int := if i = 0 then 0 else if dbF t lt (n - 1 - i) < bl then bl else dbF t lt (n - 1 - i)

/-- The last one of 1 .. n-1 with p, or 0. -/
def LastP (n : Nat) (p : Nat → Prop) (w : Nat) : Prop := (∀ j, w < j → j < n → ¬ p j) ∧ (w = 0 ∨ (w < n ∧ p w))
theorem LastP.one {n : Nat} {p : Nat → Prop} {w v : Nat} (h : LastP n p w) (k : LastP n p v) : w = v := by
  rcases Nat.lt_trichotomy w v with e | e | e
  · rcases k.2 with k2 | k2
    · omega
    · exact absurd k2.2 (h.1 v e k2.1)
  · exact e
  · rcases h.2 with h2 | h2
    · omega
    · exact absurd h2.2 (k.1 w e h2.1)

/-- The base level as the package reckons it. -/
structure GoBase (n : Nat) (T : Nat → Int) (p : Nat → Prop) (b : Nat) : Prop where
  out : ∃ w b0 b1 b2, LastP n p w ∧ b0 = (if w = 0 then 1 else w) ∧
    ((b1 = b0 ∧ (T b0 ≠ 0 ∨ n ≤ b0 + 1)) ∨ (b0 ≤ b1 ∧ b1 + 2 ≤ n ∧ (∀ j, b0 ≤ j → j ≤ b1 → T j = 0) ∧ (b1 + 2 = n ∨ T (b1 + 1) ≠ 0))) ∧
    (b2 = b1 ∨ (b2 = b1 + 1 ∧ b1 + 1 < n ∧ T b1 = 0)) ∧
    ((b = b2 ∧ ∀ j, 1 ≤ j → j < b2 → T j = 0) ∨ (1 ≤ b ∧ b < b2 ∧ T b ≠ 0 ∧ ∀ j, 1 ≤ j → j < b → T j = 0))

/-- The base level as the package reckons it, exactly. -/
structure GoBase2 (n : Nat) (T : Nat → Int) (p q : Nat → Prop) (b : Nat) : Prop where
  out : ∃ w b0 b1 b2, LastP n p w ∧ b0 = (if w = 0 then 1 else w) ∧
    ((b1 = b0 ∧ (T b0 ≠ 0 ∨ n ≤ b0 + 1)) ∨ (b0 ≤ b1 ∧ b1 + 2 ≤ n ∧ (∀ j, b0 ≤ j → j ≤ b1 → T j = 0) ∧ (b1 + 2 = n ∨ T (b1 + 1) ≠ 0))) ∧
    ((b2 = b1 ∧ ¬ (b1 + 1 < n ∧ T b1 = 0 ∧ q (b1 + 1))) ∨ (b2 = b1 + 1 ∧ b1 + 1 < n ∧ T b1 = 0 ∧ q (b1 + 1))) ∧
    ((b = b2 ∧ ∀ j, 1 ≤ j → j < b2 → T j = 0) ∨ (1 ≤ b ∧ b < b2 ∧ T b ≠ 0 ∧ ∀ j, 1 ≤ j → j < b → T j = 0))
theorem GoBase2.weak {n : Nat} {T : Nat → Int} {p q : Nat → Prop} {b : Nat} (h : GoBase2 n T p q b) : GoBase n T p b := by
  obtain ⟨w, b0, b1, b2, h1, h2, h3, h4, h5⟩ := h.out
  exact ⟨w, b0, b1, b2, h1, h2, h3, h4.imp (fun h => h.1) (fun h => ⟨h.1, h.2.1, h.2.2.1⟩), h5⟩
theorem GoBase2.one {n : Nat} {T : Nat → Int} {p q : Nat → Prop} {b b' : Nat} (h : GoBase2 n T p q b) (h' : GoBase2 n T p q b') : b = b' := by
  obtain ⟨w, b0, b1, b2, h1, h2, h3, h4, h5⟩ := h.out
  obtain ⟨w', c0, c1, c2, k1, k2, k3, k4, k5⟩ := h'.out
  obtain rfl := h1.one k1
  obtain rfl : b0 = c0 := by rw [h2, k2]
  have e1 : b1 = c1 := by
    rcases h3 with ⟨rfl, a⟩ | ⟨a1, a2, a3, a4⟩ <;> rcases k3 with ⟨rfl, c⟩ | ⟨d1, d2, d3, d4⟩
    · rfl
    · rcases a with a | a
      · exact absurd (d3 _ (Nat.le_refl _) d1) a
      · omega
    · rcases c with c | c
      · exact absurd (a3 _ (Nat.le_refl _) a1) c
      · omega
    · rcases Nat.lt_trichotomy b1 c1 with e | e | e
      · rcases a4 with a4 | a4
        · omega
        · exact absurd (d3 (b1 + 1) (by omega) (by omega)) a4
      · exact e
      · rcases d4 with d4 | d4
        · omega
        · exact absurd (a3 (c1 + 1) (by omega) (by omega)) d4
  subst e1
  have e2 : b2 = c2 := by
    rcases h4 with ⟨rfl, a⟩ | ⟨rfl, a⟩ <;> rcases k4 with ⟨rfl, c⟩ | ⟨rfl, c⟩
    · rfl
    · exact absurd c a
    · exact absurd a c
    · rfl
  subst e2
  rcases h5 with ⟨rfl, a⟩ | ⟨a1, a2, a3, a4⟩ <;> rcases k5 with ⟨rfl, c⟩ | ⟨d1, d2, d3, d4⟩
  · rfl
  · exact absurd (a _ d1 d2) d3
  · exact absurd (c _ a1 a2) a3
  · rcases Nat.lt_trichotomy b b' with e | e | e
    · exact absurd (d4 _ a1 e) a3
    · exact e
    · exact absurd (a4 _ d1 e) d3

/-- How far down the reference goes. -/
def Down (n : Nat) (T : Nat → Int) (b w : Nat) : Prop := b ≤ w ∧ (w = b ∨ w + 2 ≤ n) ∧ (∀ j, b < j → j ≤ w → T j = 0) ∧ (n ≤ w + 2 ∨ T (w + 1) ≠ 0)
/-- The first level from 1 on with tables, or n. -/
def FirstP (n : Nat) (T : Nat → Int) (f : Nat) : Prop := 1 ≤ f ∧ f ≤ n ∧ (∀ j, 1 ≤ j → j < f → T j = 0) ∧ (f = n ∨ T f ≠ 0)

theorem GoBase.ranged {n : Nat} {T : Nat → Int} {p : Nat → Prop} {b : Nat} (h : GoBase n T p b) (h2 : 2 ≤ n) : 1 ≤ b ∧ b < n := by
  obtain ⟨w, b0, b1, b2, hw, h0, h1, h2', h3⟩ := h.out
  have hw2 := hw.2
  split at h0 <;> rcases h1 with h1 | h1 <;> rcases h2' with h2' | h2' <;> rcases h3 with h3 | h3 <;> omega

theorem GoBase.fits {n : Nat} {T : Nat → Int} {p : Nat → Prop} {b w0 w f : Nat} (h : GoBase n T p b) (h2 : 2 ≤ n) (hw : LastP n p w0) (hd : Down n T (if w0 = 0 then 1 else w0) w) (hf : FirstP n T f) :
    b = min w f ∨ (b = min (w + 1) f ∧ T w = 0 ∧ w + 1 < n) := by
  obtain ⟨w', b0, b1, b2, hw', h0, h1, h2', h3⟩ := h.out
  obtain rfl := hw.one hw'
  rw [← h0] at hd
  have hb0 : 1 ≤ b0 ∧ b0 < n := by have := hw.2; split at h0 <;> omega
  clear h0 hw hw'
  obtain ⟨d1, d2, d3, d4⟩ := hd
  obtain ⟨f1, f2, f3, f4⟩ := hf
  rcases h1 with ⟨rfl, h1⟩ | ⟨h1a, h1b, h1c, h1d⟩
  · -- the base level has tables, or is the last one
    rcases h1 with h1 | h1
    · have hfb : f ≤ b1 := by
        rcases Nat.lt_or_ge b1 f with e | e
        · exact absurd (f3 b1 hb0.1 e) h1
        · exact e
      have hb2 : b2 = b1 := by
        rcases h2' with h | ⟨-, -, h⟩
        · exact h
        · exact absurd h h1
      subst hb2
      left
      rw [Nat.min_eq_right (by omega)]
      rcases h3 with ⟨rfl, h3⟩ | ⟨h3a, h3b, h3c, h3d⟩
      · rcases Nat.lt_or_ge f b with e | e
        · rcases f4 with f4 | f4
          · omega
          · exact absurd (h3 f f1 e) f4
        · omega
      · rcases Nat.lt_trichotomy b f with e | e | e
        · exact absurd (f3 b h3a e) h3c
        · exact e
        · rcases f4 with f4 | f4
          · omega
          · exact absurd (h3d f f1 e) f4
    · have hw : w = b1 := by omega
      subst hw
      have hb2 : b2 = w := by omega
      subst hb2
      left
      rcases h3 with ⟨rfl, h3⟩ | ⟨h3a, h3b, h3c, h3d⟩
      · rcases Nat.lt_or_ge f b with e | e
        · rcases f4 with f4 | f4
          · omega
          · exact absurd (h3 f f1 e) f4
        · rw [Nat.min_eq_left e]
      · have hfb : f ≤ b := by
          rcases Nat.lt_or_ge b f with e | e
          · exact absurd (f3 b h3a e) h3c
          · exact e
        rw [Nat.min_eq_right (by omega)]
        rcases Nat.lt_or_ge f b with e | e
        · rcases f4 with f4 | f4
          · omega
          · exact absurd (h3d f f1 e) f4
        · omega
  · have hw : w = b1 := by
      rcases Nat.lt_trichotomy w b1 with e | e | e
      · rcases d4 with d4 | d4
        · omega
        · exact absurd (h1c (w + 1) (by omega) (by omega)) d4
      · exact e
      · rcases h1d with h1d | h1d
        · omega
        · exact absurd (d3 (b1 + 1) (by omega) (by omega)) h1d
    subst hw
    have hT : T w = 0 := h1c w h1a (Nat.le_refl _)
    have key : b = min b2 f := by
      rcases h3 with ⟨rfl, h3⟩ | ⟨h3a, h3b, h3c, h3d⟩
      · rcases Nat.lt_or_ge f b with e | e
        · rcases f4 with f4 | f4
          · omega
          · exact absurd (h3 f f1 e) f4
        · rw [Nat.min_eq_left e]
      · have hfb : f ≤ b := by
          rcases Nat.lt_or_ge b f with e | e
          · exact absurd (f3 b h3a e) h3c
          · exact e
        rw [Nat.min_eq_right (by omega)]
        rcases Nat.lt_or_ge f b with e | e
        · rcases f4 with f4 | f4
          · omega
          · exact absurd (h3d f f1 e) f4
        · omega
    rcases h2' with rfl | ⟨rfl, h2a, -⟩
    · exact .inl key
    · exact .inr ⟨key, hT, by omega⟩

/-- The sizes of tables. -/
def fsz (tt bt mt : Int) (b : Nat) : Nat → Int
  | 0 => mt
  | i + 1 => bt * tt ^ (i + 1 - b)

end Go.Proofs.Ytdofgamahjmohaa
