/- container/heap's down over the box. -/
import Derived.Test.YtaheafmdkbobcaaHpC
namespace Go.Proofs.Ytaheafmdkbobcaa
open Go.RowKit

/-- The child that down looks at. -/
def kid (xs : List Int) (m i : Nat) : Nat := if 2 * i + 2 < m ∧ ltB xs (2 * i + 2) (2 * i + 1) = true then 2 * i + 2 else 2 * i + 1

/-- heap.down. -/
def hdn (xs : List Int) (m i : Nat) : List Int :=
  if _h : 2 * i + 1 < m then (if ltB xs (kid xs m i) i = true then hdn (swp xs i (kid xs m i)) m (kid xs m i) else xs) else xs
termination_by m - i
decreasing_by unfold kid; split <;> omega

theorem hdn_end (xs : List Int) (m i : Nat) (h : ¬ 2 * i + 1 < m) : hdn xs m i = xs := by rw [hdn]; simp [h]
theorem hdn_stop (xs : List Int) (m i j : Nat) (h : 2 * i + 1 < m) (hj : kid xs m i = j) (hb : ltB xs j i = false) : hdn xs m i = xs := by rw [hdn]; simp [h, hj, hb]
theorem hdn_go (xs : List Int) (m i j : Nat) (h : 2 * i + 1 < m) (hj : kid xs m i = j) (hb : ltB xs j i = true) : hdn xs m i = hdn (swp xs i j) m j := by rw [hdn]; simp [h, hj, hb]

/-- Some bool comes back. -/
def SomeBool (e : Ending) : Prop := ∃ b, e = .returned (.bool b)

set_option maxHeartbeats 2000000 in
theorem down_any (ib g n cap : Nat) (xs : List Int) (i0 m : Nat) (w : World) (h : HeapAt w ib (.slice (some ⟨g, 0, none⟩) n cap) xs) (hl : xs.length = n) (hm : m ≤ n) (hi0 : i0 ≤ m) (hmx : n ≤ 100000000) :
    Calls Try.prog 42 #[HI ib, .int .i64 i0, .int .i64 m] w fun e w' => SomeBool e ∧ HeapAt w' ib (.slice (some ⟨g, 0, none⟩) n cap) (hdn xs m i0) ∧ Tch [g] w w' := by
  go_enter Try.func42, Try.ntmps42
  go_wp2
  go_loopw [7] (fun v wr => ∃ (k : Nat) (ys : List Int), k ≤ m ∧ v = .int .i64 k ∧ ys.length = n ∧ HeapAt wr ib (.slice (some ⟨g, 0, none⟩) n cap) ys ∧ hdn ys m k = hdn xs m i0 ∧ Tch [g] w wr) (fun v _ => m - (intOf v).toNat)
  case atStart => exact ⟨i0, xs, hi0, rfl, hl, h, rfl, Tch.refl _ _⟩
  case round =>
    obtain ⟨k, ys, hk, rfl, hl, hh, he, ht⟩ := hrel
    have c0 := cell_of_one hh.box
    have HE := Lib.hid he
    have HL := Lib.hid hl
    clear he hl
    by_cases h0 : 2 * k + 1 < m
    · have h1 : (2 : Int) * k + 1 < m := by omega
      have hm1 := mLess ib _ wr c0
      have e2 : (2 * (k : Int) + 1 + 1).toNat = 2 * k + 2 := by omega
      have e1 : (2 * (k : Int) + 1).toNat = 2 * k + 1 := by omega
      have hz : decide ((2 : Int) * k + 1 < 0) = false := by simp; omega
      have hz2 : decide ((m : Int) ≤ 2 * k + 1) = false := by simp; omega
      have E1 := Lib.hid e1
      have E2 := Lib.hid e2
      clear e1 e2
      by_cases h2 : 2 * k + 2 < m
      rotate_left
      · have h3 : ¬ (2 : Int) * k + 1 + 1 < m := by omega
        have hj : kid ys m k = 2 * k + 1 := by unfold kid; rw [if_neg (fun h => h2 h.1)]
        have HJ := Lib.hid hj
        clear hj
        cases hb : ltB ys (2 * k + 1) k with
        | false =>
          have HB := Lib.hid hb
          clear hb
          have tok1 : True := trivial
          have tok2 : True := trivial
          go_wp2_with (first | (go_at_call 60; have _t := tok2; clear tok2; refine (less_hp ib g n cap ys _ _ _ hh HL.out (by omega) (by omega) (by omega) (by omega) false (by rw [E1.out, Int.toNat_natCast]; exact HB.out)).mono ?_; rintro e w1 ⟨rfl, q2, rfl⟩; have hm3 := mSwap ib _ (wr.drewN q2) (cell_of_one (hh.drewN _).box)))
          go_ret
          exact ⟨⟨_, rfl⟩, by rw [← HE.out, hdn_stop _ _ _ _ h0 HJ.out HB.out]; exact hh.drewN _, ht.drewN _⟩
        | true =>
          have HB := Lib.hid hb
          clear hb
          have tok1 : True := trivial
          have tok2 : True := trivial
          go_wp2_with (first | (go_at_call 60; have _t := tok2; clear tok2; refine (less_hp ib g n cap ys _ _ _ hh HL.out (by omega) (by omega) (by omega) (by omega) true (by rw [E1.out, Int.toNat_natCast]; exact HB.out)).mono ?_; rintro e w1 ⟨rfl, q2, rfl⟩; have hm3 := mSwap ib _ (wr.drewN q2) (cell_of_one (hh.drewN _).box)) | (go_at_call 61; refine (swap_hp ib g n cap ys _ _ _ (hh.drewN _) HL.out (by omega) (by omega) (by omega) (by omega)).mono ?_; rintro e w2 ⟨rfl, hh2, ht2⟩))
          rw [E1.out] at hh2
          simp only [Int.toNat_natCast] at hh2
          go_roundw
          case rel => exact ⟨2 * k + 1, swp ys k (2 * k + 1), by omega, congrArg (Value.int .i64) (by omega), by rw [swp_length]; exact HL.out, hh2, by rw [← HE.out, hdn_go _ _ _ _ h0 HJ.out HB.out], (ht.drewN _).trans ht2⟩
          case measure => simp [intOf]; omega
      · have h3 : (2 : Int) * k + 1 + 1 < m := by omega
        cases hb1 : ltB ys (2 * k + 2) (2 * k + 1) with
        | false =>
          have hj : kid ys m k = 2 * k + 1 := by unfold kid; rw [if_neg (fun h => by rw [hb1] at h; exact absurd h.2 (by simp))]
          have HJ := Lib.hid hj
          clear hj
          have HB1 := Lib.hid hb1
          clear hb1
          cases hb : ltB ys (2 * k + 1) k with
          | false =>
            have HB := Lib.hid hb
            clear hb
            have tok1 : True := trivial
            have tok2 : True := trivial
            go_wp2_with (first | (go_at_call 60; have _t := tok1; clear tok1; refine (less_hp ib g n cap ys _ _ _ hh HL.out (by omega) (by omega) (by omega) (by omega) false (by rw [E1.out, E2.out]; exact HB1.out)).mono ?_; rintro e w1 ⟨rfl, q1, rfl⟩; have hm2 := mLess ib _ (wr.drewN q1) (cell_of_one (hh.drewN _).box)) | (go_at_call 60; have _t := tok2; clear tok2; refine (less_hp ib g n cap ys _ _ _ (hh.drewN _) HL.out (by omega) (by omega) (by omega) (by omega) false (by rw [E1.out, Int.toNat_natCast]; exact HB.out)).mono ?_; rintro e w1 ⟨rfl, q2, rfl⟩; have hm3 := mSwap ib _ (wr.drewN (q1 + q2)) (cell_of_one (hh.drewN _).box)))
            go_ret
            exact ⟨⟨_, rfl⟩, by rw [← HE.out, hdn_stop _ _ _ _ h0 HJ.out HB.out]; exact hh.drewN _, ht.drewN _⟩
          | true =>
            have HB := Lib.hid hb
            clear hb
            have tok1 : True := trivial
            have tok2 : True := trivial
            go_wp2_with (first | (go_at_call 60; have _t := tok1; clear tok1; refine (less_hp ib g n cap ys _ _ _ hh HL.out (by omega) (by omega) (by omega) (by omega) false (by rw [E1.out, E2.out]; exact HB1.out)).mono ?_; rintro e w1 ⟨rfl, q1, rfl⟩; have hm2 := mLess ib _ (wr.drewN q1) (cell_of_one (hh.drewN _).box)) | (go_at_call 60; have _t := tok2; clear tok2; refine (less_hp ib g n cap ys _ _ _ (hh.drewN _) HL.out (by omega) (by omega) (by omega) (by omega) true (by rw [E1.out, Int.toNat_natCast]; exact HB.out)).mono ?_; rintro e w1 ⟨rfl, q2, rfl⟩; have hm3 := mSwap ib _ (wr.drewN (q1 + q2)) (cell_of_one (hh.drewN _).box)) | (go_at_call 61; refine (swap_hp ib g n cap ys _ _ _ (hh.drewN _) HL.out (by omega) (by omega) (by omega) (by omega)).mono ?_; rintro e w2 ⟨rfl, hh2, ht2⟩))
            rw [E1.out] at hh2
            simp only [Int.toNat_natCast] at hh2
            go_roundw
            case rel => exact ⟨2 * k + 1, swp ys k (2 * k + 1), by omega, congrArg (Value.int .i64) (by omega), by rw [swp_length]; exact HL.out, hh2, by rw [← HE.out, hdn_go _ _ _ _ h0 HJ.out HB.out], (ht.drewN _).trans ht2⟩
            case measure => simp [intOf]; omega
        | true =>
          have hj : kid ys m k = 2 * k + 2 := by unfold kid; rw [if_pos ⟨h2, hb1⟩]
          have HJ := Lib.hid hj
          clear hj
          have HB1 := Lib.hid hb1
          clear hb1
          cases hb : ltB ys (2 * k + 2) k with
          | false =>
            have HB := Lib.hid hb
            clear hb
            have tok1 : True := trivial
            have tok2 : True := trivial
            go_wp2_with (first | (go_at_call 60; have _t := tok1; clear tok1; refine (less_hp ib g n cap ys _ _ _ hh HL.out (by omega) (by omega) (by omega) (by omega) true (by rw [E1.out, E2.out]; exact HB1.out)).mono ?_; rintro e w1 ⟨rfl, q1, rfl⟩; have hm2 := mLess ib _ (wr.drewN q1) (cell_of_one (hh.drewN _).box)) | (go_at_call 60; have _t := tok2; clear tok2; refine (less_hp ib g n cap ys _ _ _ (hh.drewN _) HL.out (by omega) (by omega) (by omega) (by omega) false (by rw [E2.out, Int.toNat_natCast]; exact HB.out)).mono ?_; rintro e w1 ⟨rfl, q2, rfl⟩; have hm3 := mSwap ib _ (wr.drewN (q1 + q2)) (cell_of_one (hh.drewN _).box)))
            go_ret
            exact ⟨⟨_, rfl⟩, by rw [← HE.out, hdn_stop _ _ _ _ h0 HJ.out HB.out]; exact hh.drewN _, ht.drewN _⟩
          | true =>
            have HB := Lib.hid hb
            clear hb
            have tok1 : True := trivial
            have tok2 : True := trivial
            go_wp2_with (first | (go_at_call 60; have _t := tok1; clear tok1; refine (less_hp ib g n cap ys _ _ _ hh HL.out (by omega) (by omega) (by omega) (by omega) true (by rw [E1.out, E2.out]; exact HB1.out)).mono ?_; rintro e w1 ⟨rfl, q1, rfl⟩; have hm2 := mLess ib _ (wr.drewN q1) (cell_of_one (hh.drewN _).box)) | (go_at_call 60; have _t := tok2; clear tok2; refine (less_hp ib g n cap ys _ _ _ (hh.drewN _) HL.out (by omega) (by omega) (by omega) (by omega) true (by rw [E2.out, Int.toNat_natCast]; exact HB.out)).mono ?_; rintro e w1 ⟨rfl, q2, rfl⟩; have hm3 := mSwap ib _ (wr.drewN (q1 + q2)) (cell_of_one (hh.drewN _).box)) | (go_at_call 61; refine (swap_hp ib g n cap ys _ _ _ (hh.drewN _) HL.out (by omega) (by omega) (by omega) (by omega)).mono ?_; rintro e w2 ⟨rfl, hh2, ht2⟩))
            rw [E2.out] at hh2
            simp only [Int.toNat_natCast] at hh2
            go_roundw
            case rel => exact ⟨2 * k + 2, swp ys k (2 * k + 2), by omega, congrArg (Value.int .i64) (by omega), by rw [swp_length]; exact HL.out, hh2, by rw [← HE.out, hdn_go _ _ _ _ h0 HJ.out HB.out], (ht.drewN _).trans ht2⟩
            case measure => simp [intOf]; omega
    · have h1 : ¬ (2 : Int) * k + 1 < m := by omega
      go_wp2
      go_ret
      exact ⟨⟨_, rfl⟩, by rw [← HE.out, hdn_end _ _ _ h0]; exact hh, ht⟩

end Go.Proofs.Ytaheafmdkbobcaa
