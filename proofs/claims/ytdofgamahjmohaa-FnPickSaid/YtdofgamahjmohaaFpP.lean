/- Floats as levels have them: no NaN comes up; how they are ordered. Plain. -/
import Derived.Laws.FloatArith
namespace Go.Proofs.Ytdofgamahjmohaa
set_option maxRecDepth 100000
set_option exponentiation.threshold 4000

theorem dbl_least : Ieee.double.leastPlace = -1074 := by decide
theorem dbl_binade : Ieee.double.binade = 4503599627370496 := by decide
theorem dbl_inf : Ieee.double.infRung = 9218868437227405312 := by decide
theorem dbl_sign : Ieee.double.signWeight = 9223372036854775808 := by decide
theorem dbl_frac : Ieee.double.fractionBits = 52 := rfl

/-- What a word of a rung reads as. -/
theorem read_word (neg : Bool) (r : Nat) (h : r ≤ 9218868437227405312) : Ieee.double.read (Ieee.double.word neg r) = if r < 4503599627370496 then .number neg r (-1074) else if r < 9218868437227405312 then .number neg (4503599627370496 + r % 4503599627370496) (-1074 + (r / 4503599627370496 - 1 : Nat)) else .infinity neg := by
  unfold Ieee.Format.read Ieee.Format.word
  rw [dbl_sign, dbl_binade, dbl_inf, dbl_least]
  cases neg with
  | false =>
    simp only [Bool.false_eq_true, if_false]
    have e1 : r / 9223372036854775808 = 0 := by omega
    have e2 : r % 9223372036854775808 = r := by omega
    rw [e1, e2]
    by_cases h1 : r < 4503599627370496
    · rw [if_pos h1, if_pos h1]; rfl
    · rw [if_neg h1, if_neg h1]
      by_cases h2 : r < 9218868437227405312
      · rw [if_pos h2, if_pos h2]; rfl
      · rw [if_neg h2, if_neg h2, if_pos (by omega)]; rfl
  | true =>
    simp only [if_true]
    have e1 : (9223372036854775808 + r) / 9223372036854775808 = 1 := by omega
    have e2 : (9223372036854775808 + r) % 9223372036854775808 = r := by omega
    rw [e1, e2]
    by_cases h1 : r < 4503599627370496
    · rw [if_pos h1, if_pos h1]; rfl
    · rw [if_neg h1, if_neg h1]
      by_cases h2 : r < 9218868437227405312
      · rw [if_pos h2, if_pos h2]; rfl
      · rw [if_neg h2, if_neg h2, if_pos (by omega)]; rfl

/-- A word that is a number; one that is no NaN. -/
def Num (x : Nat) : Prop := ∃ s m e, Ieee.double.read x = .number s m e ∧ -1074 ≤ e ∧ e ≤ 1000 ∧ m < 9007199254740992
def Val (x : Nat) : Prop := Num x ∨ ∃ s, Ieee.double.read x = .infinity s
theorem val_word (neg : Bool) (r : Nat) (h : r ≤ 9218868437227405312) : Val (Ieee.double.word neg r) := by
  unfold Val Num
  rw [read_word neg r h]
  by_cases h1 : r < 4503599627370496
  · rw [if_pos h1]; exact .inl ⟨_, _, _, rfl, by omega, by omega, by omega⟩
  · rw [if_neg h1]
    by_cases h2 : r < 9218868437227405312
    · rw [if_pos h2]; exact .inl ⟨_, _, _, rfl, by omega, by omega, by omega⟩
    · rw [if_neg h2]; exact .inr ⟨_, rfl⟩
theorem num_word (neg : Bool) (r : Nat) (h : r < 9218868437227405312) : Num (Ieee.double.word neg r) := by
  rcases val_word neg r (by omega) with h1 | ⟨s, h1⟩
  · exact h1
  · rw [read_word neg r (by omega)] at h1
    by_cases h2 : r < 4503599627370496
    · rw [if_pos h2] at h1; simp at h1
    · rw [if_neg h2, if_pos h] at h1; simp at h1

theorem nearest_word (neg : Bool) (mag : Nat) (place : Int) : ∃ r, r ≤ 9218868437227405312 ∧ Ieee.double.nearest neg mag place = Ieee.double.word neg r := by
  unfold Ieee.Format.nearest
  split
  · exact ⟨0, by omega, rfl⟩
  · exact ⟨_, by rw [dbl_inf]; exact Nat.min_le_right _ _, rfl⟩
theorem val_write {d : Ieee.Datum} (h : ∀ s t, d ≠ .nan s t) : Val (Ieee.double.write d) := by
  cases d with
  | number s m e =>
    obtain ⟨r, hr, e1⟩ := nearest_word s m e
    show Val (Ieee.double.nearest s m e)
    rw [e1]; exact val_word s r hr
  | infinity s =>
    unfold Ieee.Format.write
    exact val_word s _ (by rw [dbl_inf]; exact Nat.le_refl _)
  | nan s t => exact absurd rfl (h s t)

theorem cut_le (neg : Bool) (n d : Nat) (B : Nat) (hB : 0 < B) (h : n < B * 2 ^ d) : Ieee.Toward.even.cut neg n d ≤ B := by
  unfold Ieee.Toward.cut
  simp only
  have hg : n / (1 <<< min d (n.log2 + 2)) < B := by
    rw [Nat.one_shiftLeft]
    rcases Nat.le_total d (n.log2 + 2) with h1 | h1
    · rw [Nat.min_eq_left h1]
      exact Nat.div_lt_of_lt_mul (by rw [Nat.mul_comm]; exact h)
    · rw [Nat.min_eq_right h1]
      have : n < 2 ^ (n.log2 + 2) := Nat.lt_of_lt_of_le Nat.lt_log2_self (Nat.pow_le_pow_right (by omega) (by omega))
      rw [Nat.div_eq_of_lt this]; exact hB
  refine Nat.le_trans (Nat.add_le_add_left (Bool.toNat_le _) _) ?_
  omega

theorem num_nearest (neg : Bool) (mag : Nat) (place : Int) (h : mag ≠ 0 → place + mag.log2 ≤ 900) : Num (Ieee.double.nearest neg mag place) := by
  unfold Ieee.Format.nearest
  by_cases h0 : mag = 0
  · rw [if_pos h0]; exact num_word neg 0 (by omega)
  rw [if_neg h0]
  have hp := h h0
  simp only [dbl_least, dbl_frac, dbl_binade, dbl_inf]
  generalize hL : max (place + (mag.log2 : Int) - ((52 : Nat) : Int)) (-1074) = last
  have hl1 : last ≤ 848 := by omega
  have hl2 : -1074 ≤ last := by omega
  have hl3 : place + (mag.log2 : Int) - 52 ≤ last := by omega
  have hk : Ieee.Toward.even.cut neg (mag <<< (place - last).toNat) (last - place).toNat ≤ 9007199254740992 := by
    refine cut_le neg _ _ _ (by omega) ?_
    have hm : mag < 2 ^ (mag.log2 + 1) := Nat.lt_log2_self
    rw [Nat.shiftLeft_eq]
    have e53 : (9007199254740992 : Nat) = 2 ^ 53 := by decide
    rw [e53, ← Nat.pow_add]
    calc mag * 2 ^ (place - last).toNat < 2 ^ (mag.log2 + 1) * 2 ^ (place - last).toNat := Nat.mul_lt_mul_of_pos_right hm (Nat.pow_pos (by omega))
      _ = 2 ^ (mag.log2 + 1 + (place - last).toNat) := (Nat.pow_add _ _ _).symm
      _ ≤ 2 ^ (53 + (last - place).toNat) := Nat.pow_le_pow_right (by omega) (by omega)
  generalize Ieee.Toward.even.cut neg (mag <<< (place - last).toNat) (last - place).toNat = kept at hk ⊢
  have hlt : (last - -1074).toNat * 4503599627370496 + kept < 9218868437227405312 := by
    have h1 : (last - -1074).toNat ≤ 1922 := by omega
    have h2 := Nat.mul_le_mul_right 4503599627370496 h1
    omega
  rw [Nat.min_eq_left (Nat.le_of_lt hlt)]
  exact num_word neg _ hlt

/-- A whole number as a float. -/
theorem int_read (a : Int) (h0 : a ≠ 0) (h : a.natAbs < 9007199254740992) : ∃ M : Nat, Ieee.double.read (floatOfInt .f64 a) = .number (decide (a < 0)) M ((a.natAbs.log2 : Int) - 52) ∧ M ≠ 0 ∧ M.log2 = 52 ∧ M < 9007199254740992 := by
  have hn : a.natAbs ≠ 0 := by omega
  have hlo : 2 ^ a.natAbs.log2 ≤ a.natAbs := Nat.log2_self_le hn
  have hhi : a.natAbs < 2 ^ (a.natAbs.log2 + 1) := Nat.lt_log2_self
  have hL : a.natAbs.log2 ≤ 52 := by
    have : a.natAbs.log2 < 53 := (Nat.log2_lt hn).2 (by have e : (2 : Nat) ^ 53 = 9007199254740992 := by decide
                                                        omega)
    omega
  have e52 : (4503599627370496 : Nat) = 2 ^ 52 := by decide
  have e53 : (9007199254740992 : Nat) = 2 ^ 53 := by decide
  have hM1 : 4503599627370496 ≤ a.natAbs * 2 ^ (52 - a.natAbs.log2) := by
    rw [e52]
    calc 2 ^ 52 = 2 ^ a.natAbs.log2 * 2 ^ (52 - a.natAbs.log2) := by rw [← Nat.pow_add]; congr 1; omega
      _ ≤ _ := Nat.mul_le_mul_right _ hlo
  have hM2 : a.natAbs * 2 ^ (52 - a.natAbs.log2) < 9007199254740992 := by
    rw [e53]
    calc a.natAbs * 2 ^ (52 - a.natAbs.log2) < 2 ^ (a.natAbs.log2 + 1) * 2 ^ (52 - a.natAbs.log2) := Nat.mul_lt_mul_of_pos_right hhi (Nat.pow_pos (by omega))
      _ = 2 ^ 53 := by rw [← Nat.pow_add]; congr 1; omega
  refine ⟨a.natAbs * 2 ^ (52 - a.natAbs.log2), ?_, by omega, ?_, hM2⟩
  · have e : floatOfInt .f64 a = Ieee.double.nearest (decide (a < 0)) a.natAbs 0 := rfl
    rw [e]
    unfold Ieee.Format.nearest
    rw [if_neg hn]
    simp only [dbl_least, dbl_frac, dbl_binade, dbl_inf]
    have eL : max ((0 : Int) + (a.natAbs.log2 : Int) - ((52 : Nat) : Int)) (-1074) = (a.natAbs.log2 : Int) - 52 := by omega
    rw [eL]
    have e1 : ((0 : Int) - ((a.natAbs.log2 : Int) - 52)).toNat = 52 - a.natAbs.log2 := by omega
    have e2 : ((a.natAbs.log2 : Int) - 52 - 0).toNat = 0 := by omega
    have e3 : ((a.natAbs.log2 : Int) - 52 - -1074).toNat = a.natAbs.log2 + 1022 := by omega
    rw [e1, e2, e3, Nat.shiftLeft_eq]
    generalize hM : a.natAbs * 2 ^ (52 - a.natAbs.log2) = M at hM1 hM2 ⊢
    have ec : Ieee.Toward.even.cut (decide (a < 0)) M 0 = M := by
      unfold Ieee.Toward.cut
      simp [Nat.mod_one]
    rw [ec]
    generalize a.natAbs.log2 = L at hL
    have hr : (L + 1022) * 4503599627370496 + M < 9218868437227405312 := by omega
    rw [Nat.min_eq_left (Nat.le_of_lt hr), read_word _ _ (Nat.le_of_lt hr), if_neg (by omega), if_pos hr]
    have e4 : 4503599627370496 + ((L + 1022) * 4503599627370496 + M) % 4503599627370496 = M := by omega
    have e5 : ((L + 1022) * 4503599627370496 + M) / 4503599627370496 - 1 = L + 1022 := by omega
    rw [e4, e5]
    congr 1
    omega
  · have hne : a.natAbs * 2 ^ (52 - a.natAbs.log2) ≠ 0 := by omega
    have h1 := (Nat.log2_lt hne (k := 53)).2 (by rw [← e53]; exact hM2)
    have h2 : 52 ≤ (a.natAbs * 2 ^ (52 - a.natAbs.log2)).log2 := (Nat.le_log2 hne).2 (by rw [← e52]; exact hM1)
    omega
theorem zero_read : Ieee.double.read (floatOfInt .f64 0) = .number false 0 (-1074) := by decide

/-- A quotient of whole numbers is a number. -/
theorem score_num (a b : Int) (ha : a.natAbs < 9007199254740992) (hb : 1 ≤ b) (hb2 : b < 9007199254740992) : ∃ r, floatBits .quo .f64 (floatOfInt .f64 a) (floatOfInt .f64 b) = some r ∧ Num r := by
  obtain ⟨n, hn, hn0, hnl, -⟩ := int_read b (by omega) (by omega)
  have hx : ∃ s m i, Ieee.double.read (floatOfInt .f64 a) = .number s m i ∧ (m ≠ 0 → i + m.log2 ≤ 53) := by
    by_cases h0 : a = 0
    · subst h0; exact ⟨_, _, _, zero_read, fun h => absurd rfl h⟩
    · obtain ⟨m, hm, hm0, hml, -⟩ := int_read a h0 ha
      refine ⟨_, _, _, hm, fun _ => ?_⟩
      have : a.natAbs.log2 < 53 := (Nat.log2_lt (by omega)).2 (by have e : (2 : Nat) ^ 53 = 9007199254740992 := by decide
                                                                  omega)
      rw [hml]; omega
  obtain ⟨s, m, i, hm, hmi⟩ := hx
  have hj : (0 : Int) ≤ (b.natAbs.log2 : Int) - 52 + n.log2 := by rw [hnl]; omega
  generalize (b.natAbs.log2 : Int) - 52 = j at hn hj
  show ∃ r, Ieee.double.div _ _ = some r ∧ Num r
  unfold Ieee.Format.div
  rw [hm, hn]
  unfold Ieee.Datum.quotient
  simp only [if_neg hn0, Option.map_some]
  refine ⟨_, rfl, ?_⟩
  show Num (Ieee.double.nearest _ _ _)
  refine num_nearest _ _ _ (fun hmag => ?_)
  have hm0 : m ≠ 0 := fun e => by
    subst e
    simp at hmag
  generalize hmore : Ieee.double.fractionBits + 2 + n.log2 - m.log2 = more at hmag ⊢
  have hf : Ieee.double.fractionBits = 52 := rfl
  rw [hf] at hmore
  have h1 : m <<< more < 2 ^ (m.log2 + 1 + more) := by
    rw [Nat.shiftLeft_eq, Nat.pow_add]
    exact Nat.mul_lt_mul_of_pos_right Nat.lt_log2_self (Nat.pow_pos (by omega))
  have h2 : m <<< more / n < 2 ^ (m.log2 + 1 + more - n.log2) := by
    refine Nat.div_lt_of_lt_mul (Nat.lt_of_lt_of_le h1 ?_)
    calc 2 ^ (m.log2 + 1 + more) = 2 ^ n.log2 * 2 ^ (m.log2 + 1 + more - n.log2) := by rw [← Nat.pow_add]; congr 1; omega
      _ ≤ _ := Nat.mul_le_mul_right _ (Nat.log2_self_le hn0)
  have h3 : (2 * (m <<< more / n) + (m <<< more % n != 0).toNat).log2 < m.log2 + 1 + more - n.log2 + 1 := by
    refine (Nat.log2_lt hmag).2 ?_
    rw [Nat.pow_succ]
    have := Bool.toNat_le (m <<< more % n != 0)
    omega
  have h4 := hmi hm0
  omega

/-- The least divisor that is taken: 0.01. -/
theorem cent_read : Ieee.double.read 4576918229304087675 = .number false 5764607523034235 (-59) := by decide
theorem num_cent : Num 4576918229304087675 := ⟨_, _, _, cent_read, by omega, by omega, by omega⟩
/-- What is no NaN, divided by a number that is not nought. -/
theorem quo_val {x y : Nat} (hx : Num x) (hy : ∃ s m e, Ieee.double.read y = .number s m e ∧ m ≠ 0) : ∃ r, floatBits .quo .f64 x y = some r ∧ Val r := by
  obtain ⟨s, m, i, hm, -⟩ := hx
  obtain ⟨t, n, j, hn, hn0⟩ := hy
  show ∃ r, Ieee.double.div _ _ = some r ∧ Val r
  unfold Ieee.Format.div
  rw [hm, hn]
  unfold Ieee.Datum.quotient
  simp only [if_neg hn0, Option.map_some]
  exact ⟨_, rfl, val_write (fun s t => by simp)⟩

/-- What a word is worth, as a whole number. -/
def V (x : Nat) : Int :=
  match Ieee.double.read x with
  | .number s m e => if s then -((m * 2 ^ (e + 1074).toNat : Nat) : Int) else ((m * 2 ^ (e + 1074).toNat : Nat) : Int)
  | .infinity s => if s then -((2 ^ 3000 : Nat) : Int) else ((2 ^ 3000 : Nat) : Int)
  | .nan _ _ => 0
theorem cmp_mul {a b c : Int} (hc : 0 < c) : compare (a * c) (b * c) = compare a b := by
  have h1 : a * c < b * c ↔ a < b := Int.mul_lt_mul_right hc
  have h2 : a * c = b * c ↔ a = b := Int.mul_eq_mul_right_iff (by omega)
  show compareOfLessAndEq _ _ = compareOfLessAndEq _ _
  unfold compareOfLessAndEq
  simp only [h1, h2]
theorem cmp_lt {a b : Int} (h : a < b) : compare a b = .lt := by
  show compareOfLessAndEq _ _ = _
  unfold compareOfLessAndEq
  rw [if_pos h]
theorem cmp_gt {a b : Int} (h : b < a) : compare a b = .gt := by
  show compareOfLessAndEq _ _ = _
  unfold compareOfLessAndEq
  rw [if_neg (by omega), if_neg (by omega)]
theorem signed_V (s : Bool) (m : Nat) (e base : Int) (h1 : base ≤ e) (h2 : -1074 ≤ base) : Ieee.signed s m (e - base).toNat * ((2 ^ (base + 1074).toNat : Nat) : Int) = if s then -((m * 2 ^ (e + 1074).toNat : Nat) : Int) else ((m * 2 ^ (e + 1074).toNat : Nat) : Int) := by
  unfold Ieee.signed
  have e1 : (e + 1074).toNat = (e - base).toNat + (base + 1074).toNat := by omega
  have e2 : (m <<< (e - base).toNat) * 2 ^ (base + 1074).toNat = m * 2 ^ (e + 1074).toNat := by rw [e1, Nat.shiftLeft_eq, Nat.pow_add, Nat.mul_assoc]
  rw [← e2]
  cases s
  · simp only [Bool.false_eq_true, if_false]
    rw [← Int.natCast_mul]
  · simp only [if_true]
    rw [Int.neg_mul, ← Int.natCast_mul]
theorem num_small {m : Nat} {e : Int} (h1 : e ≤ 1000) (h2 : m < 9007199254740992) : m * 2 ^ (e + 1074).toNat < 2 ^ 3000 := by
  have e53 : (9007199254740992 : Nat) = 2 ^ 53 := by decide
  rw [e53] at h2
  calc m * 2 ^ (e + 1074).toNat < 2 ^ 53 * 2 ^ (e + 1074).toNat := Nat.mul_lt_mul_of_pos_right h2 (Nat.pow_pos (by omega))
    _ = 2 ^ (53 + (e + 1074).toNat) := (Nat.pow_add _ _ _).symm
    _ ≤ 2 ^ 3000 := Nat.pow_le_pow_right (by omega) (by omega)
theorem order_V {x y : Nat} (hx : Val x) (hy : Val y) : Ieee.double.order x y = some (compare (V x) (V y)) := by
  unfold Ieee.Format.order V
  rcases hx with ⟨s, m, e, hx, a1, a2, a3⟩ | ⟨s, hx⟩ <;> rcases hy with ⟨t, n, f, hy, b1, b2, b3⟩ | ⟨t, hy⟩ <;> rw [hx, hy]
  · simp only [Ieee.Datum.order]
    rw [← signed_V s m e (min e f) (by omega) (by omega), ← signed_V t n f (min e f) (by omega) (by omega), cmp_mul (Int.natCast_pos.2 (Nat.pow_pos (by omega)))]
  · have := num_small a2 a3
    simp only [Ieee.Datum.order]
    generalize m * 2 ^ (e + 1074).toNat = q at this ⊢
    generalize (2 : Nat) ^ 3000 = z at this ⊢
    cases t <;> cases s <;> simp only [if_true, if_false, Bool.false_eq_true] <;> (first | rw [cmp_lt (by omega)] | rw [cmp_gt (by omega)])
  · have := num_small b2 b3
    simp only [Ieee.Datum.order]
    generalize n * 2 ^ (f + 1074).toNat = q at this ⊢
    generalize (2 : Nat) ^ 3000 = z at this ⊢
    cases t <;> cases s <;> simp only [if_true, if_false, Bool.false_eq_true] <;> (first | rw [cmp_lt (by omega)] | rw [cmp_gt (by omega)])
  · have hz : 0 < (2 : Nat) ^ 3000 := Nat.pow_pos (by omega)
    simp only [Ieee.Datum.order]
    generalize (2 : Nat) ^ 3000 = z at hz ⊢
    cases t <;> cases s <;> simp only [if_true, if_false, Bool.false_eq_true] <;> (first | rw [cmp_lt (by omega)]; rfl | rw [cmp_gt (by omega)]; rfl | (show some (compareOfLessAndEq _ _) = some (compareOfLessAndEq _ _); simp [compareOfLessAndEq]))

/-- What is at least 0.01 is not nought. -/
theorem ge_cent {y : Nat} (hy : Num y) (h : Ieee.double.order y 4576918229304087675 = some .gt ∨ Ieee.double.order y 4576918229304087675 = some .eq) : ∃ s m e, Ieee.double.read y = .number s m e ∧ m ≠ 0 := by
  obtain ⟨s, m, e, hr, h1, h2, h3⟩ := hy
  refine ⟨s, m, e, hr, fun h0 => ?_⟩
  subst h0
  have hlt : Ieee.double.order y 4576918229304087675 = some .lt := by
    rw [order_V (.inl ⟨_, _, _, hr, h1, h2, h3⟩) (.inl num_cent), cmp_lt]
    unfold V
    rw [hr, cent_read]
    cases s <;> simp
  rw [hlt] at h
  rcases h with h | h <;> simp at h

end Go.Proofs.Ytdofgamahjmohaa
