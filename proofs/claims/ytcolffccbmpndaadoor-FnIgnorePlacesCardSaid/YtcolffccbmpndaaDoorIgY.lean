/- spec.Decimal. -/
import Derived.Test.YtcolffccbmpndaaDoorIgX
namespace Go.Proofs.YtcolffccbmpndaaDoor
open Go.RowKit Go.Deep
set_option maxRecDepth 100000

theorem bs_append (a b : List UInt8) : bs a ++ bs b = bs (a ++ b) := by
  apply ByteArray.ext
  apply Array.ext'
  simp [bs]
theorem fold_acc : ∀ (l : List UInt8) (acc : Nat), l.foldl (fun n x => 10 * n + (x.toNat - 48)) acc = acc * 10 ^ l.length + val l := by
  intro l
  induction l with
  | nil => intro acc; simp [val]
  | cons b t ih =>
    intro acc
    unfold val
    rw [List.foldl_cons, List.foldl_cons, ih, ih, List.length_cons, Nat.pow_succ]
    have e1 : (10 * acc + (b.toNat - 48)) * 10 ^ t.length = acc * (10 ^ t.length * 10) + (b.toNat - 48) * 10 ^ t.length := by
      rw [Nat.add_mul]
      congr 1
      rw [Nat.mul_comm 10 acc, Nat.mul_assoc, Nat.mul_comm 10]
    rw [e1]
    simp
    omega
theorem val_cons (b : UInt8) (t : List UInt8) : val (b :: t) = (b.toNat - 48) * 10 ^ t.length + val t := by
  have := fold_acc t (10 * 0 + (b.toNat - 48))
  unfold val at this ⊢
  rw [List.foldl_cons, this]
  simp

/-- A digit. -/
def dg (n : Nat) : UInt8 := UInt8.ofNat (48 + n % 10)
theorem dg_nat (n : Nat) : (dg n).toNat = 48 + n % 10 := by
  unfold dg
  have : n % 10 < 10 := Nat.mod_lt _ (by omega)
  simp
  omega
theorem dg_isD (n : Nat) : isD (dg n) := by
  unfold isD
  rw [dg_nat]
  have : n % 10 < 10 := Nat.mod_lt _ (by omega)
  omega

theorem enc_dg (m : Nat) : Utf8.encode (48 + (m : Int) % 10) = bs [dg m] := by
  have e : (m : Int) % 10 = ((m % 10 : Nat) : Int) := by omega
  have h : m % 10 < 10 := Nat.mod_lt _ (by omega)
  unfold dg
  rw [e]
  generalize m % 10 = r at h
  have hr : r = 0 ∨ r = 1 ∨ r = 2 ∨ r = 3 ∨ r = 4 ∨ r = 5 ∨ r = 6 ∨ r = 7 ∨ r = 8 ∨ r = 9 := by omega
  rcases hr with rfl | rfl | rfl | rfl | rfl | rfl | rfl | rfl | rfl | rfl <;> rfl

/-- What Decimal tells. -/
theorem pow_start {N : Nat} (h : N ≤ 9999) : N < 10 ^ (4 - ([] : List UInt8).length) := by
  show N < 10 ^ 4
  exact Nat.lt_of_le_of_lt h (by decide)
def DecEnd (N : Nat) (w : World) (e : Ending) (w' : World) : Prop :=
  ∃ ds, e = .returned (.string (bs ds)) ∧ w' = w ∧ Ds ds ∧ val ds = N

set_option maxHeartbeats 2000000 in
theorem decimal_any (N : Nat) (w : World) (hN : N ≤ 9999) : Calls Tryd.prog 9 #[.int .i64 N] w (DecEnd N w) := by
  go_enter Tryd.func9, Tryd.ntmps9
  go_wp2_with fail
  go_loopg [0, 3] N (fun nn s0 s3 wr => ∃ (m : Nat) (o : List UInt8), m ≤ 9999 ∧ nn = m ∧ s0 = .int .i64 m ∧ s3 = .string (bs o) ∧ Hid ((∀ x ∈ o, isD x) ∧ (o = [] ∨ 0 < m) ∧ m < 10 ^ (4 - o.length) ∧ o.length ≤ 4 ∧ m * 10 ^ o.length + val o = N ∧ wr = w))
  case atStart => exact ⟨N, [], hN, rfl, rfl, rfl, by simp, .inl rfl, pow_start hN, by simp, by simp [val], rfl⟩
  case round =>
    obtain ⟨m, o, hm, hnn, rfl, rfl, HR⟩ := hrel
    have HNN := Lib.hid hnn
    clear hnn
    have hmi : (m : Int) ≤ 9999 := by omega
    have henc := enc_dg m
    have hsz : (bs [dg m]).size = 1 := bs_size _
    have hso := bs_size o
    have hol : (o.length : Int) ≤ 4 := by have := HR.out.2.2.2.1; omega
    have hap : bs [dg m] ++ bs o = bs (dg m :: o) := bs_append _ _
    have HST : Hid ((∀ x ∈ dg m :: o, isD x) ∧ o.length ≤ 3 ∧ m / 10 < 10 ^ (4 - (o.length + 1)) ∧ m / 10 * 10 ^ (o.length + 1) + val (dg m :: o) = N ∧ wr = w) := Lib.hid (by
      obtain ⟨h1, h2, h3, h4, h5, h6⟩ := HR.out
      have hl3 : o.length ≤ 3 := by
        rcases Nat.lt_or_ge 3 o.length with hq | hq
        · have : o.length = 4 := by omega
          rw [this] at h3
          rcases h2 with rfl | h2
          · simp at this
          · simp at h3; omega
        · exact hq
      refine ⟨fun x hx => ?_, hl3, ?_, ?_, h6⟩
      · rcases List.mem_cons.1 hx with rfl | hx
        · exact dg_isD m
        · exact h1 x hx
      · have e : 10 ^ (4 - o.length) = 10 ^ (4 - (o.length + 1)) * 10 := by rw [show 4 - o.length = 4 - (o.length + 1) + 1 by omega, Nat.pow_succ]
        rw [e] at h3
        exact Nat.div_lt_of_lt_mul (by omega)
      · rw [val_cons, dg_nat, Nat.pow_succ, ← h5]
        have e : m = m / 10 * 10 + m % 10 := by omega
        have e2 : 48 + m % 10 - 48 = m % 10 := by omega
        rw [e2]
        conv => rhs; rw [e, Nat.add_mul]
        have e3 : m / 10 * (10 ^ o.length * 10) = m / 10 * 10 * 10 ^ o.length := by rw [Nat.mul_assoc, Nat.mul_comm 10 (10 ^ o.length)]
        rw [e3]
        omega)
    clear HR
    by_cases h0 : m < 10
    · have hz : ((m : Int) / 10 == 0) = true := beq_iff_eq.2 (by omega)
      have H0 := Lib.hid h0
      clear h0
      go_wp2_with fail
      go_ret
      obtain ⟨h1, h2, h3, h4, h6⟩ := HST.out
      refine ⟨dg m :: o, rfl, h6, ⟨by simp, by simp; omega, h1⟩, ?_⟩
      rw [show m / 10 = 0 by have := H0.out; omega, Nat.zero_mul, Nat.zero_add] at h4
      exact h4
    · have hz : ((m : Int) / 10 == 0) = false := beq_eq_false_iff_ne.2 (by omega)
      have H0 := Lib.hid h0
      clear h0
      go_wp2_with fail
      go_roundg (m / 10)
      case rel =>
        obtain ⟨h1, h2, h3, h4, h6⟩ := HST.out
        refine ⟨m / 10, dg m :: o, by omega, rfl, by go_num, rfl, h1, .inr (by have := H0.out; omega), ?_, by simp; omega, ?_, h6⟩
        · rw [List.length_cons]; exact h3
        · rw [List.length_cons]; exact h4
      case measure => have := H0.out; have := HNN.out; omega

end Go.Proofs.YtcolffccbmpndaaDoor
