/- spec.open, spec.SamePlaces. -/
import Derived.Test.YtcolffccbmpndaaDoorIgV
namespace Go.Proofs.YtcolffccbmpndaaDoor
open Go.RowKit Go.Deep
set_option maxRecDepth 100000

/-- A list of truth values in memory. -/
def BlAt (w : World) (v : Value) (n : Nat) (f : Nat → Bool) : Prop :=
  ∃ a c, v = .slice a n c ∧ (0 < n → ∃ ad : Addr, a = some ad ∧ ∀ j, j < n → w.cell? (ad.add j) = some (.bool (f j)))
theorem BlAt.tch {w w' : World} {v : Value} {n : Nat} {f : Nat → Bool} (h : BlAt w v n f) (t : Tch [] w w') : BlAt w' v n f := by
  obtain ⟨a, c, rfl, h2⟩ := h
  refine ⟨a, c, rfl, fun hn => ?_⟩
  obtain ⟨ad, rfl, h3⟩ := h2 hn
  exact ⟨ad, rfl, fun j hj => cell_tch (h3 j hj) t⟩
theorem Own.blAt {w0 w : World} {a : Option Addr} {n c : Nat} {f : Nat → Bool} (h : Own w0 w 4 1 (.slice a n c) n (bl n f)) : BlAt w (.slice a n c) n f := by
  refine ⟨a, c, rfl, fun hn => ?_⟩
  obtain ⟨g, rfl, -, hc, -⟩ := h.rowCell hn
  exact ⟨⟨g, 0, none⟩, rfl, fun j hj => by rw [show (⟨g, 0, none⟩ : Addr).add j = ⟨g, j, none⟩ by unfold Addr.add; split <;> simp_all]; exact hc j _ (by unfold bl; simp [hj])⟩

theorem open_any (v : Value) (n : Nat) (f : Nat → Bool) (i : Nat) (w : World) (h : BlAt w v n f) (hn : n ≤ 4611686018427387904) (hi : i ≤ 4611686018427387904) :
    Calls Tryd.prog 13 #[v, .int .i64 i] w fun e w' => e = .returned (.bool (decide (i < n) && f i)) ∧ w' = w := by
  obtain ⟨a, c, rfl, h2⟩ := h
  by_cases hlt : i < n
  · obtain ⟨ad, rfl, h3⟩ := h2 (by omega)
    have hc := h3 i hlt
    have hlt2 : (i : Int) < (n : Int) := by omega
    have hd : decide (i < n) = true := decide_eq_true hlt
    rw [hd, Bool.true_and]
    generalize f i = b at hc ⊢
    clear h2 h3
    go_enter Tryd.func13, Tryd.ntmps13
    go_wp2_with fail
    go_ret
    exact ⟨rfl, rfl⟩
  · have hd : decide (i < n) = false := decide_eq_false hlt
    have hd2 : decide ((i : Int) < (n : Int)) = false := decide_eq_false (by omega)
    have hge : (n : Int) ≤ (i : Int) := by omega
    rw [hd, Bool.false_and]
    clear h2 hlt
    go_enter Tryd.func13, Tryd.ntmps13
    go_wp2_with fail
    go_ret
    exact ⟨rfl, rfl⟩

set_option maxHeartbeats 2000000 in
theorem same_any (va vb : Value) (n m : Nat) (f g : Nat → Bool) (w : World) (ha : BlAt w va n f) (hb : BlAt w vb m g) (hn : n ≤ 1000000000000) (hm : m ≤ 1000000000000) (heq : ∀ i, (decide (i < n) && f i) = (decide (i < m) && g i)) :
    Calls Tryd.prog 8 #[va, vb] w fun e w' => e = .returned (.bool true) ∧ Tch [] w w' := by
  have HA := Lib.hid (fun (i : Nat) (hi : i ≤ 1000000000000) (w' : World) (t : Tch [] w w') => open_any va n f i w' (ha.tch t) (by omega) (by omega))
  have HB := Lib.hid (fun (i : Nat) (hi : i ≤ 1000000000000) (w' : World) (t : Tch [] w w') => open_any vb m g i w' (hb.tch t) (by omega) (by omega))
  have HE := Lib.hid heq
  obtain ⟨a, c, rfl, -⟩ := ha
  obtain ⟨b, d, rfl, -⟩ := hb
  obtain ⟨k, hk⟩ : ∃ k : Nat, k = max n m := ⟨_, rfl⟩
  have hkI : max (n : Int) (m : Int) = (k : Int) := by omega
  have hk2 : k ≤ 1000000000000 := by omega
  clear heq
  go_enter Tryd.func8, Tryd.ntmps8
  go_wp2_with fail
  go_loopg [11] k (fun nn s11 wr => ∃ i : Nat, i ≤ k ∧ nn = k - i ∧ s11 = .int .i64 i ∧ Hid (Tch [] w wr))
  case atStart => exact ⟨0, Nat.zero_le _, rfl, rfl, Tch.refl _ _⟩
  case round =>
    obtain ⟨i, hi, rfl, rfl, HT⟩ := hrel
    rename World => wr
    by_cases hlt : i < k
    · have hlt2 : (i : Int) < (k : Int) := by omega
      have HLT := Lib.hid hlt
      have HI := Lib.hid (show i ≤ 1000000000000 by omega)
      have hx := HE.out i
      generalize hu : (decide (i < n) && f i) = u at hx
      have HA1 := Lib.hid (fun w' t => HA.out i HI.out w' t)
      have HB1 := Lib.hid (fun w' t => HB.out i HI.out w' t)
      rw [hu] at HA1
      rw [← hx] at HB1
      have hi6 : (i : Int) ≤ 1000000000000 := by omega
      clear hx hu hlt HA HB
      go_wp2_with fail
      refine (HA1.out _ HT.out).mono ?_
      rintro e w1 ⟨rfl, hw⟩
      rw [hw]
      clear hw
      go_wp2_with fail
      refine (HB1.out _ HT.out).mono ?_
      rintro e w1 ⟨rfl, hw⟩
      rw [hw]
      clear hw
      have hne : (u != u) = false := by cases u <;> rfl
      have hne2 : (u == u) = true := by cases u <;> rfl
      go_wp2_with fail
      go_roundg (k - (i + 1))
      case rel =>
        exact ⟨i + 1, HLT.out, rfl, by go_num, HT.out⟩
      case measure => have := HLT.out; omega
    · obtain rfl : i = k := by omega
      clear hlt
      go_wp2_with fail
      go_ret
      exact ⟨rfl, HT.out⟩

end Go.Proofs.YtcolffccbmpndaaDoor
