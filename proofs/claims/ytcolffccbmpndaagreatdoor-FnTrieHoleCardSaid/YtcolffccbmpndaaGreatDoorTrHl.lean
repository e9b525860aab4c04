/- FnTrieHole, walked. -/
import Derived.Test.YtcolffccbmpndaaGreatDoorTrMa
import Derived.Laws.BitsAllLaws
namespace Go.Proofs.YtcolffccbmpndaaGreatDoor
open Go.RowKit Go.Deep
set_option maxRecDepth 100000

theorem fits_set {p : List Int} {f : Nat → Bool} {at_ : Nat} {y : Int} (ha : at_ < p.length) (hy : y ≠ p.getD at_ 0) : fitsP (pathOf f p) (p.set at_ y) = f at_ := by
  have h := fitsP_iff p f (p.set at_ y)
  rw [Bool.eq_iff_iff, h]
  constructor
  · rintro ⟨-, h2⟩
    rcases h2 at_ ha with h3 | h3
    · exact h3
    · exfalso
      apply hy
      rw [← h3]
      simp [List.getD, ha]
  · intro hf
    refine ⟨by simp, fun i hi => ?_⟩
    by_cases e : i = at_
    · subst e; exact .inl hf
    · right
      simp [List.getD, Ne.symm e]
theorem fits_self {p : List Int} {f : Nat → Bool} : fitsP (pathOf f p) p = true := (fitsP_iff p f p).2 ⟨Nat.le_refl _, fun _ _ => .inr rfl⟩
theorem hole_run {p key : List Int} {tx : List UInt8} {n : Nat} {f : Nat → Bool} (h : parseP tx = some (n, f)) : runT [] [⟨1, p, tx, 7⟩, ⟨4, p, [], 0⟩, ⟨4, key, [], 0⟩] = [⟨true, [], 0, 0⟩, ⟨true, [7], 1, 0⟩, ⟨true, if fitsP (pathOf f p) key = true then [7] else [], if fitsP (pathOf f p) key = true then 1 else 0, 0⟩] := by
  have hs : fitsP (pathOf f p) p = true := fits_self
  by_cases hf : fitsP (pathOf f p) key = true
  · simp [runT, stepT, holesD, h, idsFor, putO, List.filter, hf, hs]
  · simp [runT, stepT, holesD, h, idsFor, putO, List.filter, hf, hs]

theorem hole_call (w : World) {l key : List Int} {ba ka : Option Addr} {bc kc : Nat} {tx : List UInt8} {n : Nat} {f : Nat → Bool} (hb : By w l ba bc) (hk : By w key ka kc) (hl : l.length ≤ 10000) (hkl : key.length = l.length) (hh : HolesOk tx n f) (ht : Tabs w) :
    Calls Tryz.prog 16 #[.slice (some ⟨w.heap.size, 0, none⟩) 3 3] (w.alloc (.cells #[.int .i64 1, .slice ba l.length bc, .string (bs tx), .int .u64 7, .int .i64 4, .slice ba l.length bc, .string ⟨#[]⟩, .int .u64 0, .int .i64 4, .slice ka l.length kc, .string ⟨#[]⟩, .int .u64 0] 28)) fun e w' => ∃ g oc b r b2 r2, e = .returned (.slice (some ⟨g, 0, none⟩) 3 oc) ∧ Tch [] w w' ∧ w'.cell? ⟨g, 5, none⟩ = some (.slice b 1 r) ∧ w'.cell? ⟨g, 9, none⟩ = some (.slice b2 (if fitsP (pathOf f l) key = true then 1 else 0) r2) := by
  have t := (Tch.refl [] w).alloc (.cells #[.int .i64 1, .slice ba l.length bc, .string (bs tx), .int .u64 7, .int .i64 4, .slice ba l.length bc, .string ⟨#[]⟩, .int .u64 0, .int .i64 4, .slice ka l.length kc, .string ⟨#[]⟩, .int .u64 0] 28)
  have hW := heap_alloc_new w (.cells #[.int .i64 1, .slice ba l.length bc, .string (bs tx), .int .u64 7, .int .i64 4, .slice ba l.length bc, .string ⟨#[]⟩, .int .u64 0, .int .i64 4, .slice ka l.length kc, .string ⟨#[]⟩, .int .u64 0] 28)
  have hst := steps_lit (L := [⟨⟨1, l, tx, 7⟩, ba, bc⟩, ⟨⟨4, l, [], 0⟩, ba, bc⟩, ⟨⟨4, key, [], 0⟩, ka, kc⟩]) hW (by simp [stC, hkl]) (fun x hx => by
    simp only [List.mem_cons, List.not_mem_nil, or_false] at hx
    rcases hx with rfl | rfl | rfl
    · exact hb.tch t
    · exact hb.tch t
    · exact hk.tch t)
  refine (runTrie_any [⟨1, l, tx, 7⟩, ⟨4, l, [], 0⟩, ⟨4, key, [], 0⟩] _ 3 _ (by simp) hst (getD_all (fun s hs => by
    simp only [List.mem_cons, List.not_mem_nil, or_false] at hs
    rcases hs with rfl | rfl | rfl
    · exact ⟨by show l.length ≤ 20000; omega, hh.2.1, fun _ => hh.2.2⟩
    · exact okS_get l 0 (by omega) 4 (by decide)
    · exact okS_get key 0 (by omega) 4 (by decide))) (ht.tch t)).mono ?_
  intro e w2 hE
  obtain ⟨g, oc, outs, rfl, ho, t2, hc⟩ := told_of hE (by simp)
  rw [hole_run hh.1] at ho
  rcases outs with _ | ⟨p0, _ | ⟨p1, _ | ⟨p2, _ | ⟨p3, r⟩⟩⟩⟩ <;> simp at ho
  obtain ⟨o0, o1, o2⟩ := ho
  obtain ⟨c1, a1, q1, e1, -⟩ := hc 1 p1 rfl
  obtain ⟨c2, a2, q2, e2, -⟩ := hc 2 p2 rfl
  have x5 := c1 1 (by omega)
  have x9 := c2 1 (by omega)
  simp only [tolC, o1, o2, e1, e2, List.getElem?_cons_succ, List.getElem?_cons_zero, List.length_singleton] at x5 x9
  refine ⟨g, oc, a1, q1, a2, q2, rfl, t.trans t2, x5, ?_⟩
  rw [x9]
  by_cases hf : fitsP (pathOf f l) key = true <;> simp [hf]

theorem getD_in {l : List Int} {k : Nat} (h : k < l.length) : l.getD k 0 ∈ l := by
  simp [List.getD, List.getElem?_eq_getElem h]
theorem xor_ne {a b : Int} (h1 : 0 ≤ a) (h2 : a < 256) (h3 : 0 ≤ b) (h4 : b < 256) (hb : b ≠ 0) : bits .xor .u8 a b ≠ a ∧ 0 ≤ bits .xor .u8 a b ∧ bits .xor .u8 a b < 256 := by
  rw [u8_xor a b h1 h2 h3 h4]
  have hl : a.toNat ^^^ b.toNat < 2 ^ 8 := Nat.xor_lt_two_pow (by omega) (by omega)
  refine ⟨fun e => ?_, by omega, by omega⟩
  have e2 : a.toNat ^^^ b.toNat = a.toNat := by omega
  have e3 := congrArg (a.toNat ^^^ ·) e2
  simp only [← Nat.xor_assoc, Nat.xor_self, Nat.zero_xor] at e3
  omega

set_option maxHeartbeats 4000000 in
theorem hole_any (w : World) (l : List Int) (ba : Option Addr) (bc : Nat) (tx : List UInt8) (at_ : Int) (by_ : Int) (hy0 : 0 ≤ by_ ∧ by_ < 256) (hb : By w l ba bc) (ht : Tabs w) :
    Calls Tryz.prog 4 #[.slice ba l.length bc, .string (bs tx), .int .i64 at_, .int .u8 by_] w fun e w' => e = .returned (.bool true) ∧ Tch [] w w' := by
  have hs := bs_size tx
  by_cases h1 : l.length ≤ 2147483647
  rotate_left
  · have g1 : (2147483647 : Int) < (l.length : Int) := by omega
    clear h1
    go_enter Tryz.func4, Tryz.ntmps4
    go_wp2_with fail
    go_ret
    exact ⟨rfl, Tch.refl _ _⟩
  by_cases h2 : tx.length ≤ 2147483647
  rotate_left
  · have g1 : (l.length : Int) ≤ 2147483647 := by omega
    have g2 : (2147483647 : Int) < (tx.length : Int) := by omega
    clear h1 h2
    go_enter Tryz.func4, Tryz.ntmps4
    go_wp2_with fail
    go_ret
    exact ⟨rfl, Tch.refl _ _⟩
  have HSM := Lib.hid (small_fun w l [] ba none bc 0 tx h2 h1 (by simp))
  have HHO := Lib.hid (fun w' => holes_fun tx w' h2)
  have HB := Lib.hid hb
  have HTB := Lib.hid ht
  have g1 : (l.length : Int) ≤ 2147483647 := by omega
  have g2 : (tx.length : Int) ≤ 2147483647 := by omega
  have d1 : decide ((2147483647 : Int) < (l.length : Int)) = false := decide_eq_false (by omega)
  have d2 : decide ((2147483647 : Int) < (tx.length : Int)) = false := decide_eq_false (by omega)
  simp only [List.length_nil] at HSM
  have HY0 := Lib.hid hy0
  clear hb ht h1 h2 hy0
  go_enter Tryz.func4, Tryz.ntmps4
  go_wp2_with fail
  clear d1 d2
  refine HSM.out.mono ?_
  rintro e w1 ⟨b, rfl, t, hbb⟩
  have HT1 := Lib.hid t
  have HBB := Lib.hid hbb
  clear t hbb
  cases b with
  | false =>
    go_wp2_with fail
    go_ret
    exact ⟨rfl, HT1.out⟩
  | true =>
    obtain ⟨k1, -, k3⟩ := HBB.out (by simp)
    have HL := Lib.hid k1
    have HFI := Lib.hid k3
    clear k1 k3 HBB HSM
    by_cases hn : at_ < 0
    · go_wp2_with fail
      go_ret
      exact ⟨rfl, HT1.out⟩
    by_cases hg : (l.length : Int) ≤ at_
    · have hn2 : 0 ≤ at_ := by omega
      clear hn
      go_wp2_with fail
      go_ret
      exact ⟨rfl, HT1.out⟩
    by_cases hz : by_ = 0
    · subst hz
      have hn2 : 0 ≤ at_ := by omega
      have hg2 : at_ < (l.length : Int) := by omega
      clear hn hg
      go_wp2_with fail
      go_ret
      exact ⟨rfl, HT1.out⟩
    obtain ⟨k, rfl⟩ : ∃ k : Nat, at_ = (k : Int) := ⟨at_.toNat, by omega⟩
    have hkl : (k : Int) < (l.length : Int) := by omega
    have HKL := Lib.hid (show k < l.length by omega)
    have hz2 : (by_ == 0) = false := by simpa using hz
    have hd1 : decide ((k : Int) < 0) = false := decide_eq_false (by omega)
    have hd2 : decide ((l.length : Int) ≤ (k : Int)) = false := decide_eq_false (by omega)
    have hd3 : decide (l.length ≤ k) = false := decide_eq_false (by omega)
    have HZ := Lib.hid hz
    clear hn hg hz
    go_wp2_with fail
    refine (HHO.out w1).mono ?_
    rintro e w2 ⟨a, c, n, f, fine, rfl, q1, q2, q3, q4, q5⟩
    rw [HFI.out] at q5
    have hh := holesOk_of2 q3 (q4 q5)
    have HH := Lib.hid hh
    have HT2 := Lib.hid (HT1.out.trans q1.t)
    have HV := Lib.hid q1.blAt
    have HN := Lib.hid q2
    have HA2 := Lib.hid (own_bytes_apps (l := []) (Own.new (Tch.refl [] w2) 5 1) ((HB.out.tch HT2.out).tch ((Tch.refl [] w2).alloc (.cells #[] 5))) (by have := HL.out; simp only [List.length_nil]; omega))
    simp only [List.length_nil, Nat.zero_add, List.nil_append] at HA2
    clear q1 q2 q3 q4 hh HHO HFI hd1 hd2 hd3
    subst q5
    have hlp : 0 < l.length := by have := HKL.out; omega
    have HXY := Lib.hid (xor_ne (HB.out.u8 _ (getD_in HKL.out)).1 (HB.out.u8 _ (getD_in HKL.out)).2 HY0.out.1 HY0.out.2 HZ.out)
    have HLP := Lib.hid hlp
    go_wp2_with (at_builtin; refine wpList_append_run rfl (.tmp 44) (.tmp 45) 23 rfl (.slice (some ⟨w2.heap.size, 0, none⟩) 0 0) (.slice ba l.length bc) (by simp [Act.eval]) (by simp [Act.eval]) _ HA2.out ?_; rintro vv w5 ⟨a5, c5, rfl, n1, -⟩; obtain ⟨g5, rfl, hg5, hc5, hz5⟩ := n1.rowCell HLP.out; have HO5 := Lib.hid n1; have HG5 := Lib.hid hg5; have y5 := hc5 k (.int .u8 (l.getD k 0)) (by unfold u8V; simp [List.getD, List.getElem?_eq_getElem HKL.out]); have fz5 := hz5 k; clear n1 hg5 hc5 hz5)
    have HOS := Lib.hid (HO5.out.stored HG5.out k (.int .u8 (bits .xor .u8 (l.getD k 0) by_)))
    have hset : (u8V l).set k (.int .u8 (bits .xor .u8 (l.getD k 0) by_)) = u8V (l.set k (bits .xor .u8 (l.getD k 0) by_)) := by unfold u8V; rw [List.map_set]
    have hos := HOS.out
    rw [hset] at hos
    have hsz : (w5.setCell ⟨g5, k, none⟩ (.int .u8 (bits .xor .u8 (l.getD k 0) by_))).heap.size = w5.heap.size := by simp
    have hkb : By (w5.setCell ⟨g5, k, none⟩ (.int .u8 (bits .xor .u8 (l.getD k 0) by_))) (l.set k (bits .xor .u8 (l.getD k 0) by_)) (some ⟨g5, 0, none⟩) c5 := by_of_row hos.row (by simp) (fun x hx => by
      rcases List.mem_or_eq_of_mem_set hx with hx | rfl
      · exact HB.out.u8 x hx
      · exact HXY.out.2)
    have hcall := hole_call (w5.setCell ⟨g5, k, none⟩ (.int .u8 (bits .xor .u8 (l.getD k 0) by_))) ((HB.out.tch HT2.out).tch hos.t) hkb HL.out (by simp) HH.out (HTB.out.tch (HT2.out.trans hos.t))
    rw [hsz, fits_set HKL.out HXY.out.1] at hcall
    have HT5 := Lib.hid (HT2.out.trans hos.t)
    have HV5 := Lib.hid (HV.out.tch hos.t)
    clear hset hos hkb hsz HOS HO5 HA2 y5 fz5
    refine hcall.mono ?_
    clear hcall
    rintro e w6 ⟨g, oc, b1, r1, b2, r2, rfl, t, x5, x9⟩
    have HT6 := Lib.hid (HT5.out.trans t)
    have HV6 := Lib.hid (HV5.out.tch t)
    clear t HV HV5
    by_cases hkn : k < n
    · have hkn2 : (k : Int) < (n : Int) := by omega
      have hdn : decide (k < n) = true := decide_eq_true hkn
      obtain ⟨av, cv, ev, hv⟩ := HV6.out
      simp only [Value.slice.injEq, true_and] at ev
      obtain ⟨rfl, rfl⟩ := ev
      obtain ⟨ad, rfl, hv2⟩ := hv (by omega)
      have hc := hv2 k hkn
      simp only [hdn, Bool.true_and] at x9
      generalize f k = b at hc x9
      clear hv hv2 hkn HV6 HH
      cases b with
      | true =>
        simp only [if_true] at x9
        go_wp2_with fail
        go_quiet (fail)
        all_goals (try go_wp2_with fail)
        go_ret
        exact ⟨rfl, HT6.out.drewN _⟩
      | false =>
        simp only [Bool.false_eq_true, if_false] at x9
        go_wp2_with fail
        go_quiet (fail)
        all_goals (try go_wp2_with fail)
        go_ret
        exact ⟨rfl, HT6.out.drewN _⟩
    · have hkn2 : (n : Int) ≤ (k : Int) := by omega
      have hdn : decide (k < n) = false := decide_eq_false hkn
      simp only [hdn, Bool.false_and, Bool.false_eq_true, if_false] at x9
      clear hkn
      go_wp2_with fail
      go_quiet (fail)
      all_goals (try go_wp2_with fail)
      go_ret
      exact ⟨rfl, HT6.out.drewN _⟩

/-- The law, of a text that came in. -/
theorem holeB_any (w : World) (l : List Int) (ba : Option Addr) (bc : Nat) (s : ByteArray) (at_ : Int) (by_ : Int) (hy0 : 0 ≤ by_ ∧ by_ < 256) (hb : By w l ba bc) (ht : Tabs w) :
    Calls Tryz.prog 4 #[.slice ba l.length bc, .string s, .int .i64 at_, .int .u8 by_] w fun e w' => e = .returned (.bool true) ∧ Tch [] w w' := by
  rw [bs_of s]
  exact hole_any w l ba bc _ at_ by_ hy0 hb ht

end Go.Proofs.YtcolffccbmpndaaGreatDoor
