/- container/heap's Push and Pop over the box. -/
import Derived.Test.YtaheafmdkbobcaaHpD
namespace Go.Proofs.Ytaheafmdkbobcaa
open Go.RowKit

theorem swp_same (xs : List Int) (i j : Nat) : (swp xs i j).length = xs.length := swp_length xs i j
theorem hup_length (xs : List Int) (j : Nat) : (hup xs j).length = xs.length := by
  induction j using Nat.strongRecOn generalizing xs with
  | _ j ih =>
    by_cases h0 : j = 0
    · subst h0; rw [hup_zero]
    · cases hb : ltB xs j ((j - 1) / 2) with
      | false => rw [hup_stop _ _ hb]
      | true => rw [hup_go _ _ h0 hb, ih _ (by omega), swp_length]
theorem hdn_length (xs : List Int) (m i : Nat) : (hdn xs m i).length = xs.length := by
  generalize hd : m - i = d
  induction d using Nat.strongRecOn generalizing xs i with
  | _ d ih =>
    by_cases h0 : 2 * i + 1 < m
    · cases hb : ltB xs (kid xs m i) i with
      | false => rw [hdn_stop _ _ _ _ h0 rfl hb]
      | true => rw [hdn_go _ _ _ _ h0 rfl hb, ih (m - kid xs m i) (by unfold kid; split <;> omega) _ _ rfl, swp_length]
    · rw [hdn_end _ _ _ h0]

theorem up_hp (ib g n cap : Nat) (xs : List Int) (j : Int) (w : World) (h : HeapAt w ib (.slice (some ⟨g, 0, none⟩) n cap) xs) (hl : xs.length = n) (hj0 : 0 ≤ j) (hj : j < n) (hmx : n ≤ 140737488351232) :
    Calls Try.prog 41 #[HI ib, .int .i64 j] w fun e w' => e = .returned (.tuple #[]) ∧ HeapAt w' ib (.slice (some ⟨g, 0, none⟩) n cap) (hup xs j.toNat) ∧ Tch [g] w w' := by
  obtain ⟨j, rfl⟩ := Int.eq_ofNat_of_zero_le hj0
  exact up_any ib g n cap xs j w h hl (by omega) hmx

theorem down_hp (ib g n cap : Nat) (xs : List Int) (i m : Int) (w : World) (h : HeapAt w ib (.slice (some ⟨g, 0, none⟩) n cap) xs) (hl : xs.length = n) (hm : m ≤ n) (hi0 : 0 ≤ i) (him : i ≤ m) (hmx : n ≤ 100000000) :
    Calls Try.prog 42 #[HI ib, .int .i64 i, .int .i64 m] w fun e w' => SomeBool e ∧ HeapAt w' ib (.slice (some ⟨g, 0, none⟩) n cap) (hdn xs m.toNat i.toNat) ∧ Tch [g] w w' := by
  obtain ⟨i, rfl⟩ := Int.eq_ofNat_of_zero_le hi0
  obtain ⟨m, rfl⟩ := Int.eq_ofNat_of_zero_le (show 0 ≤ m by omega)
  exact down_any ib g n cap xs i m w h hl (by omega) (by omega) hmx

theorem Tch.head {S : List Nat} {w w1 w2 : World} {k : Nat} (h : Tch S w w1) (t : Tch [k] w1 w2) (hk : k < w.heap.size → k ∈ S) : Tch S w w2 :=
  h.then t (fun i hi e => by have e := List.mem_singleton.1 e; subst e; exact hk hi)

set_option maxHeartbeats 400000 in
theorem push_any (ib : Nat) (v : Value) (x : Int) (xs : List Int) (w : World) (h : HeapAt w ib v xs) (hmx : xs.length ≤ 10000000) :
    Calls Try.prog 37 #[HI ib, .iface 28 (.int .u64 x)] w fun e w' => e = .returned (.tuple #[]) ∧
      ∃ v', HeapAt w' ib v' (hup (xs ++ [x]) xs.length) ∧ Tch (ib :: v.ownBlock.toList) w w' ∧ (v'.ownBlock = v.ownBlock ∨ ∃ k, v'.ownBlock = some k ∧ w.heap.size ≤ k) := by
  have hm := mPush ib w
  have c0 := cell_of_one h.box
  have hn : ((xs.length : Int) + 1 - 1) = xs.length := by omega
  go_enter Try.func37, Try.ntmps37
  go_wp2_with (first | (go_at_call 63; go_must (refine (hpush_any ib v x xs _ h hmx).mono ?_; rintro e w1 ⟨rfl, v', hh1, ht1, hv'⟩; obtain ⟨g, cp, rfl, -, -⟩ := ownsRow_value hh1.own (by simp); have hm1 := mLen ib _ w1 (cell_of_one hh1.box); have H1 := Lib.hid hh1; have H2 := Lib.hid ht1; have H3 := Lib.hid hv'; clear hh1 ht1 hv'; have el : (xs ++ [x]).length = xs.length + 1 := (by simp); rw [el] at H1 H3 hm1; have EL := Lib.hid el; clear el)) | (go_at_call 59; refine (len_any _ _ _ _).mono ?_; rintro e w' ⟨rfl, rfl⟩) | (go_at_call 41; refine (up_hp ib g (xs.length + 1) cp (xs ++ [x]) _ _ H1.out EL.out (by omega) (by omega) (by omega)).mono ?_; rintro e w2 ⟨rfl, hh2, ht2⟩))
  go_end0
  rw [Int.toNat_natCast] at hh2
  refine ⟨rfl, _, hh2, H2.out.head ht2 ?_, H3.out⟩
  intro hk
  rcases H3.out with h | ⟨k, h, h'⟩
  · rw [← h]; simp [Value.ownBlock]
  · simp [Value.ownBlock] at h; omega

set_option maxHeartbeats 400000 in
theorem pop_any (ib g n cap : Nat) (xs : List Int) (w : World) (h : HeapAt w ib (.slice (some ⟨g, 0, none⟩) (n + 1) cap) xs) (hl : xs.length = n + 1) (hc : n + 1 ≤ cap) (hmx : n ≤ 10000000) :
    Calls Try.prog 39 #[HI ib] w fun e w' => (∃ x, e = .returned (.iface 28 (.int .u64 x))) ∧
      HeapAt w' ib (.slice (some ⟨g, 0, none⟩) n cap) ((hdn (swp xs 0 n) n 0).take n) ∧ Tch [ib, g] w w' := by
  have c0 := cell_of_one h.box
  have hm := mLen ib _ w c0
  have hm1 := mSwap ib _ w c0
  have hn : ((n : Int) + 1 - 1) = n := by omega
  have HL := Lib.hid hl
  clear hl
  go_enter Try.func39, Try.ntmps39
  go_wp2_with (first | (go_at_call 59; refine (len_any _ _ _ _).mono ?_; rintro e w' ⟨rfl, rfl⟩) | (go_at_call 61; refine (swap_hp ib g (n + 1) cap xs _ _ _ h HL.out (by omega) (by omega) (by omega) (by omega)).mono ?_; rintro e w1 ⟨rfl, hh1, ht1⟩; rw [Int.toNat_natCast] at hh1) | (go_at_call 42; refine (down_hp ib g (n + 1) cap _ _ _ _ hh1 (by rw [swp_length]; exact HL.out) (by omega) (by omega) (by omega) (by omega)).mono ?_; rintro e w2 ⟨⟨b, rfl⟩, hh2, ht2⟩; have hm2 := mPop ib w2; rw [Int.toNat_natCast] at hh2) | (go_at_call 62; refine (hpop_any ib g n cap _ _ (by rw [hdn_length, swp_length]; exact HL.out) hh2 hc (by omega)).mono ?_; rintro e w3 ⟨rfl, hh3, ht3⟩))
  go_ret
  refine ⟨⟨_, rfl⟩, hh3, ?_⟩
  exact (((ht1.mono (by intro k _ h; simp_all)).head ht2 (by simp)).head ht3 (by simp))

end Go.Proofs.Ytaheafmdkbobcaa
