/- FnTrieMatch, walked. -/
import Derived.Test.YtcolffccbmpndaaGreatDoorTrHq
namespace Go.Proofs.YtcolffccbmpndaaGreatDoor
open Go.RowKit Go.Deep
set_option maxRecDepth 100000

theorem holesOk_of2 {l : List UInt8} {n : Nat} {f : Nat → Bool} (hf : ∀ i, n ≤ i → f i = false) (h : (l = [] ∧ n = 0) ∨ (l.length ≤ 1000 ∧ ∃ L it, (∀ j ∈ L, It.good j) ∧ It.good it ∧ l = pre L ++ it.text ∧ (n, f) = (L ++ [it]).foldl stepI (0, fun _ => false))) : HolesOk l n (fun i => decide (i < n) && f i) := by
  rcases h with ⟨rfl, rfl⟩ | ⟨h5, L, it, g1, g2, g3, g4⟩
  · have e : (fun i => decide (i < 0) && f i) = fun _ => false := by funext i; simp
    rw [e]
    exact ⟨rfl, by simp, small_none⟩
  · have := parse_pre L it g1 g2
    rw [← g3, ← g4] at this
    have e : (fun i => decide (i < n) && f i) = f := by
      funext i
      by_cases hi : i < n
      · simp [hi]
      · rw [hf i (by omega)]; simp
    rw [e]
    exact ⟨this.1, by omega, this.2⟩

theorem small_fun (w : World) (l key : List Int) (ba ka : Option Addr) (bc kc : Nat) (tx : List UInt8) (ht : tx.length ≤ 2147483647) (hl : l.length ≤ 2147483647) (hk : key.length ≤ 2147483647) :
    Calls Tryz.prog 17 #[.slice ba l.length bc, .string (bs tx), .slice ka key.length kc] w fun e w' => ∃ b, e = .returned (.bool b) ∧ Tch [] w w' ∧ (b = true → l.length ≤ 10000 ∧ key.length ≤ 10000 ∧ fineF tx = true) := by
  have hs := bs_size tx
  have h0 : (tx.length : Int) ≤ 2147483647 := by omega
  by_cases hbig : l.length ≤ 10000 ∧ tx.length ≤ 10000 ∧ key.length ≤ 10000
  · obtain ⟨h1, h2, h3⟩ := hbig
    have HS := Lib.hid (⟨h1, h2, h3⟩ : _ ∧ _ ∧ _)
    have HH := Lib.hid (holes_fun tx w (by omega))
    have g1 : (l.length : Int) ≤ 10000 := by omega
    have g2 : (tx.length : Int) ≤ 10000 := by omega
    have g3 : (key.length : Int) ≤ 10000 := by omega
    have d1 : decide ((10000 : Int) < (l.length : Int)) = false := decide_eq_false (by omega)
    have d2 : decide ((10000 : Int) < (tx.length : Int)) = false := decide_eq_false (by omega)
    have d3 : decide ((10000 : Int) < (key.length : Int)) = false := decide_eq_false (by omega)
    clear h1 h2 h3 ht hl hk h0
    go_enter Tryz.func17, Tryz.ntmps17
    go_wp2_with fail
    clear d1 d2 d3
    refine HH.out.mono ?_
    rintro e w1 ⟨a, c, n, f, fine, rfl, h1, h2, h3, h4, h5⟩
    have HT := Lib.hid h1.t
    have H5 := Lib.hid h5
    clear h1 h2 h3 h4 h5
    go_wp2_with fail
    go_ret
    exact ⟨fine, rfl, HT.out, fun h => ⟨HS.out.1, HS.out.2.2, by rw [← H5.out]; exact h⟩⟩
  · by_cases h1 : l.length ≤ 10000
    · by_cases h2 : tx.length ≤ 10000
      · have g3 : (10000 : Int) < (key.length : Int) := by omega
        have g1 : (l.length : Int) ≤ 10000 := by omega
        have g2 : (tx.length : Int) ≤ 10000 := by omega
        clear hbig h1 h2 ht hl hk h0
        go_enter Tryz.func17, Tryz.ntmps17
        go_wp2_with fail
        go_ret
        exact ⟨false, rfl, Tch.refl _ _, fun h => by simp at h⟩
      · have g2 : (10000 : Int) < (tx.length : Int) := by omega
        have g1 : (l.length : Int) ≤ 10000 := by omega
        clear hbig h1 h2 ht hl hk h0
        go_enter Tryz.func17, Tryz.ntmps17
        go_wp2_with fail
        go_ret
        exact ⟨false, rfl, Tch.refl _ _, fun h => by simp at h⟩
    · have g1 : (10000 : Int) < (l.length : Int) := by omega
      clear hbig h1 ht hl hk h0
      go_enter Tryz.func17, Tryz.ntmps17
      go_wp2_with fail
      go_ret
      exact ⟨false, rfl, Tch.refl _ _, fun h => by simp at h⟩

theorem match_run {p key : List Int} {tx : List UInt8} {id : Int} {n : Nat} {f : Nat → Bool} (h : parseP tx = some (n, f)) : runT [] [⟨1, p, tx, id⟩, ⟨4, key, [], 0⟩] = [⟨true, [], 0, 0⟩, ⟨true, if fitsP (pathOf f p) key = true then [id] else [], if fitsP (pathOf f p) key = true then 1 else 0, 0⟩] := by
  by_cases hf : fitsP (pathOf f p) key = true
  · simp [runT, stepT, holesD, h, idsFor, putO, List.filter, hf]
  · simp [runT, stepT, holesD, h, idsFor, List.filter, hf]

theorem match_call (w : World) {l key : List Int} {ba ka : Option Addr} {bc kc : Nat} {tx : List UInt8} {id : Int} {n : Nat} {f : Nat → Bool} (hb : By w l ba bc) (hk : By w key ka kc) (hl : l.length ≤ 10000) (hkl : key.length ≤ 10000) (hh : HolesOk tx n f) (ht : Tabs w) :
    Calls Tryz.prog 16 #[.slice (some ⟨w.heap.size, 0, none⟩) 2 2] (w.alloc (.cells #[.int .i64 1, .slice ba l.length bc, .string (bs tx), .int .u64 id, .int .i64 4, .slice ka key.length kc, .string ⟨#[]⟩, .int .u64 0] 28)) fun e w' => ∃ g oc b r, e = .returned (.slice (some ⟨g, 0, none⟩) 2 oc) ∧ Tch [] w w' ∧ w'.cell? ⟨g, 0, none⟩ = some (.bool true) ∧ w'.cell? ⟨g, 5, none⟩ = some (.slice b (if fitsP (pathOf f l) key = true then [id] else []).length r) ∧ w'.cell? ⟨g, 6, none⟩ = some (.int .i64 (if fitsP (pathOf f l) key = true then 1 else 0)) ∧ UAt w' b (if fitsP (pathOf f l) key = true then [id] else []) := by
  have t := (Tch.refl [] w).alloc (.cells #[.int .i64 1, .slice ba l.length bc, .string (bs tx), .int .u64 id, .int .i64 4, .slice ka key.length kc, .string ⟨#[]⟩, .int .u64 0] 28)
  have hW := heap_alloc_new w (.cells #[.int .i64 1, .slice ba l.length bc, .string (bs tx), .int .u64 id, .int .i64 4, .slice ka key.length kc, .string ⟨#[]⟩, .int .u64 0] 28)
  have hst := steps_lit (L := [⟨⟨1, l, tx, id⟩, ba, bc⟩, ⟨⟨4, key, [], 0⟩, ka, kc⟩]) hW rfl (fun x hx => by
    simp only [List.mem_cons, List.not_mem_nil, or_false] at hx
    rcases hx with rfl | rfl
    · exact hb.tch t
    · exact hk.tch t)
  refine (runTrie_any [⟨1, l, tx, id⟩, ⟨4, key, [], 0⟩] _ 2 _ (by simp) hst (getD_all (fun s hs => by
    simp only [List.mem_cons, List.not_mem_nil, or_false] at hs
    rcases hs with rfl | rfl
    · exact ⟨by show l.length ≤ 20000; omega, hh.2.1, fun _ => hh.2.2⟩
    · exact okS_get key 0 (by omega) 4 (by decide))) (ht.tch t)).mono ?_
  intro e w2 hE
  obtain ⟨g, oc, outs, rfl, ho, t2, hc⟩ := told_of hE (by simp)
  rw [match_run hh.1] at ho
  generalize hids : (if fitsP (pathOf f l) key = true then [id] else []) = ids at *
  generalize hmn : (if fitsP (pathOf f l) key = true then (1 : Int) else 0) = mn at *
  rcases outs with _ | ⟨p0, _ | ⟨p1, _ | ⟨p2, r⟩⟩⟩ <;> simp at ho
  obtain ⟨o0, o1⟩ := ho
  obtain ⟨c0, -⟩ := hc 0 p0 rfl
  obtain ⟨c1, a1, q1, e1, u1⟩ := hc 1 p1 rfl
  have x0 := c0 0 (by omega)
  have x5 := c1 1 (by omega)
  have x6 := c1 2 (by omega)
  simp only [tolC, o0, o1, e1, List.getElem?_cons_succ, List.getElem?_cons_zero] at x0 x5 x6
  rw [o1] at u1
  exact ⟨g, oc, a1, q1, rfl, t.trans t2, x0, x5, x6, u1⟩

theorem match_big (w : World) (l key : List Int) (ba ka : Option Addr) (bc kc : Nat) (id : Int) (tx : List UInt8) (hbig : ¬ (l.length ≤ 2147483647 ∧ tx.length ≤ 2147483647 ∧ key.length ≤ 2147483647)) :
    Calls Tryz.prog 6 #[.slice ba l.length bc, .string (bs tx), .int .u64 id, .slice ka key.length kc] w fun e w' => e = .returned (.bool true) ∧ Tch [] w w' := by
  have hs := bs_size tx
  by_cases h1 : l.length ≤ 2147483647
  · by_cases h2 : tx.length ≤ 2147483647
    · have g3 : (2147483647 : Int) < (key.length : Int) := by omega
      have g1 : (l.length : Int) ≤ 2147483647 := by omega
      have g2 : (tx.length : Int) ≤ 2147483647 := by omega
      clear hbig h1 h2
      go_enter Tryz.func6, Tryz.ntmps6
      go_wp2_with fail
      go_ret
      exact ⟨rfl, Tch.refl _ _⟩
    · have g2 : (2147483647 : Int) < (tx.length : Int) := by omega
      have g1 : (l.length : Int) ≤ 2147483647 := by omega
      clear hbig h1 h2
      go_enter Tryz.func6, Tryz.ntmps6
      go_wp2_with fail
      go_ret
      exact ⟨rfl, Tch.refl _ _⟩
  · have g1 : (2147483647 : Int) < (l.length : Int) := by omega
    clear hbig h1
    go_enter Tryz.func6, Tryz.ntmps6
    go_wp2_with fail
    go_ret
    exact ⟨rfl, Tch.refl _ _⟩

set_option maxHeartbeats 4000000 in
theorem match_any2 (w : World) (l key : List Int) (ba ka : Option Addr) (bc kc : Nat) (id : Int) (tx : List UInt8) (hb : By w l ba bc) (hk : By w key ka kc) (ht : Tabs w) :
    Calls Tryz.prog 6 #[.slice ba l.length bc, .string (bs tx), .int .u64 id, .slice ka key.length kc] w fun e w' => e = .returned (.bool true) ∧ Tch [] w w' := by
  by_cases hbig : l.length ≤ 2147483647 ∧ tx.length ≤ 2147483647 ∧ key.length ≤ 2147483647
  rotate_left
  · exact match_big w l key ba ka bc kc id tx hbig
  obtain ⟨h1, h2, h3⟩ := hbig
  have hs := bs_size tx
  have HSM := Lib.hid (small_fun w l key ba ka bc kc tx h2 h1 h3)
  have HHO := Lib.hid (fun w' => holes_fun tx w' h2)
  have HB := Lib.hid hb
  have HK := Lib.hid hk
  have HTB := Lib.hid ht
  have g1 : (l.length : Int) ≤ 2147483647 := by omega
  have g2 : (tx.length : Int) ≤ 2147483647 := by omega
  have g3 : (key.length : Int) ≤ 2147483647 := by omega
  have d1 : decide ((2147483647 : Int) < (l.length : Int)) = false := decide_eq_false (by omega)
  have d2 : decide ((2147483647 : Int) < (tx.length : Int)) = false := decide_eq_false (by omega)
  have d3 : decide ((2147483647 : Int) < (key.length : Int)) = false := decide_eq_false (by omega)
  clear hb hk ht h1 h2 h3
  go_enter Tryz.func6, Tryz.ntmps6
  go_wp2_with fail
  clear d1 d2 d3
  refine HSM.out.mono ?_
  rintro e w1 ⟨b, rfl, t, hbb⟩
  have HT1 := Lib.hid t
  have HBB := Lib.hid hbb
  clear t hbb
  cases b with
  | false =>
    go_wp2_with fail
    go_ret
    exact ⟨rfl, HT1.out⟩
  | true =>
    obtain ⟨k1, k2, k3⟩ := HBB.out (by simp)
    have HL := Lib.hid k1
    have HKL := Lib.hid k2
    have HFI := Lib.hid k3
    clear k1 k2 k3 HBB HSM
    go_wp2_with fail
    refine (HHO.out w1).mono ?_
    rintro e w2 ⟨a, c, n, f, fine, rfl, q1, q2, q3, q4, q5⟩
    rw [HFI.out] at q5
    have hh := holesOk_of2 q3 (q4 q5)
    have HT2 := Lib.hid (HT1.out.trans q1.t)
    have HV := Lib.hid q1.blAt
    have HN := Lib.hid q2
    have HMC := Lib.hid (match_call (id := id) w2 (HB.out.tch HT2.out) (HK.out.tch HT2.out) HL.out HKL.out hh (HTB.out.tch HT2.out))
    clear q1 q2 q3 q4 hh HHO HFI
    subst q5
    go_wp2_with fail
    refine HMC.out.mono ?_
    rintro e w3 ⟨g, oc, ia, iq, rfl, t, x0, x5, x6, hu⟩
    have HT3 := Lib.hid (HT2.out.trans t)
    have HFT := Lib.hid (fits_any w3 l key ba ka bc kc (HB.out.tch HT3.out) (HK.out.tch HT3.out) (.slice a n c) n f (HV.out.tch t) (by have := HN.out; omega) (by have := HL.out; omega) (by have := HKL.out; omega))
    have HU := Lib.hid hu
    generalize fitsP (pathOf (fun i => decide (i < n) && f i) l) key = b at *
    clear t hu HMC
    go_wp2_with fail
    refine HFT.out.mono ?_
    rintro e w4 ⟨rfl, rfl⟩
    cases b with
    | true =>
      simp only [if_true, List.length_singleton] at x5 x6 HU
      go_wp2_with fail
      refine (alike_any (w4.alloc (.cells #[.int .u64 id] 26)) [id] [id] ia (some ⟨w4.heap.size, 0, none⟩) iq 1 (HU.out.tch ((Tch.refl [] w4).alloc _)) ⟨fun j hj => ?_⟩ (by simp) (by simp)).mono ?_
      · have hj0 : j = 0 := by simp at hj; omega
        subst hj0
        exact ⟨_, rfl, by
          rw [addr_add0]
          have h := heap_alloc_new w4 (.cells #[.int .u64 id] 26)
          simp only [World.cell?, h]
          rfl⟩
      rintro e w5 ⟨rfl, t⟩
      have HT5 := Lib.hid ((HT3.out.trans ((Tch.refl [] w4).alloc (.cells #[.int .u64 id] 26))).trans t)
      have x6' := cell_tch x6 (((Tch.refl [] w4).alloc (.cells #[.int .u64 id] 26)).trans t)
      clear t x5 x6
      go_wp2_with fail
      all_goals (try go_ret)
      all_goals exact ⟨rfl, HT5.out⟩
    | false =>
      simp only [Bool.false_eq_true, if_false, List.length_nil] at x5 x6
      go_wp2_with fail
      all_goals (try go_ret)
      all_goals exact ⟨rfl, HT3.out⟩

/-- The law, of a text that came in. -/
theorem matchB_any (w : World) (l key : List Int) (ba ka : Option Addr) (bc kc : Nat) (id : Int) (s : ByteArray) (hb : By w l ba bc) (hk : By w key ka kc) (ht : Tabs w) :
    Calls Tryz.prog 6 #[.slice ba l.length bc, .string s, .int .u64 id, .slice ka key.length kc] w fun e w' => e = .returned (.bool true) ∧ Tch [] w w' := by
  rw [bs_of s]
  exact match_any2 w l key ba ka bc kc id _ hb hk ht

end Go.Proofs.YtcolffccbmpndaaGreatDoor
