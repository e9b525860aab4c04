/- FnTriePrefix, walked. -/
import Derived.Test.YtcolffccbmpndaaGreatDoorTrQ
namespace Go.Proofs.YtcolffccbmpndaaGreatDoor
open Go.RowKit Go.Deep
set_option maxRecDepth 100000

/-- What the four steps tell. -/
theorem prefix_run (l key : List Int) (id : Int) : runT [] [⟨0, l, [], id⟩, ⟨4, key, [], 0⟩, ⟨2, l, [], id⟩, ⟨4, key, [], 0⟩] =
    [⟨true, [], 0, 0⟩, ⟨true, if fitsP (pathOf (fun _ => false) l) key then [id] else [], if fitsP (pathOf (fun _ => false) l) key then 1 else 0, 0⟩, ⟨true, [], 0, 0⟩, ⟨true, [], 0, 0⟩] := by
  have e0 : stepT [] ⟨0, l, [], id⟩ = ([(pathOf (fun _ => false) l, id)], ⟨true, [], 0, 0⟩) := by simp [stepT, holesD]
  have e1 : ∀ st, stepT st ⟨4, key, [], 0⟩ = (st, ⟨true, idsFor st key, (idsFor st key).length, 0⟩) := fun st => by simp [stepT]
  have e2 : stepT [(pathOf (fun _ => false) l, id)] ⟨2, l, [], id⟩ = ([], ⟨true, [], 0, 0⟩) := by simp [stepT, holesD, strikeS]
  have i1 : idsFor [(pathOf (fun _ => false) l, id)] key = if fitsP (pathOf (fun _ => false) l) key then [id] else [] := by
    unfold idsFor
    by_cases h : fitsP (pathOf (fun _ => false) l) key = true <;> simp [h, putO]
  have i2 : idsFor [] key = [] := rfl
  simp only [runT, e0, e1, e2, i1, i2]
  by_cases h : fitsP (pathOf (fun _ => false) l) key = true <;> simp [h]

theorem fits_take {l key : List Int} (hl : ∀ x ∈ l, 0 ≤ x ∧ x < 256) (hk : ∀ x ∈ key, 0 ≤ x ∧ x < 256) (h : l.length ≤ key.length) : ((bs (toB (key.take l.length))).toList == (bs (toB l)).toList) = fitsP (pathOf (fun _ => false) l) key := by
  have e1 : fitsP (pathOf (fun _ => false) l) key = true ↔ key.take l.length = l := by
    rw [fitsP_iff]
    constructor
    · rintro ⟨-, h2⟩
      apply List.ext_getElem (by simp; omega)
      intro j h3 h4
      have := h2 j h4
      simp only [Bool.false_eq_true, false_or] at this
      simpa [List.getD, List.getElem?_eq_getElem h4, List.getElem?_eq_getElem (show j < key.length by omega)] using this
    · intro e
      refine ⟨h, fun i hi => .inr ?_⟩
      have := congrArg (fun x : List Int => x.getD i 0) e
      simp only [List.getD, List.getElem?_take, hi, if_true] at this
      simpa [List.getD] using this
  rw [ByteArray.toList_eq, ByteArray.toList_eq, bs_data, bs_data, Bool.eq_iff_iff, beq_iff_eq, e1]
  exact ⟨fun h3 => toB_inj (fun x hx => hk x (List.mem_of_mem_take hx)) hl h3, fun h2 => by rw [h2]⟩

set_option maxHeartbeats 4000000 in
theorem prefix_any (w : World) (l key : List Int) (ba ka : Option Addr) (bc kc : Nat) (id : Int) (hb : By w l ba bc) (hk : By w key ka kc) (ht : Tabs w) :
    Calls Tryz.prog 9 #[.slice ba l.length bc, .int .u64 id, .slice ka key.length kc] w fun e w' => e = .returned (.bool true) ∧ Tch [] w w' := by
  by_cases hbig : l.length ≤ 2147483647 ∧ key.length ≤ 2147483647
  · obtain ⟨h1, h2⟩ := hbig
    have HSM := Lib.hid (small_any w l key ba ka bc kc [] (by simp) h1 h2)
    have HB := Lib.hid hb
    have HK := Lib.hid hk
    have HTB := Lib.hid ht
    have g1 : (l.length : Int) ≤ 2147483647 := by omega
    have g2 : (key.length : Int) ≤ 2147483647 := by omega
    have d1 : decide ((2147483647 : Int) < (l.length : Int)) = false := decide_eq_false (by omega)
    have d2 : decide ((2147483647 : Int) < (key.length : Int)) = false := decide_eq_false (by omega)
    clear hb hk ht h1 h2
    go_enter Tryz.func9, Tryz.ntmps9
    go_wp2_with fail
    clear d1 d2
    refine HSM.out.mono ?_
    rintro e w1 ⟨b, rfl, t, hbb⟩
    have HT1 := Lib.hid t
    have HBB := Lib.hid hbb
    clear t hbb
    cases b with
    | false =>
      go_wp2_with fail
      go_ret
      exact ⟨rfl, HT1.out⟩
    | true =>
      obtain ⟨k1, k2, -⟩ := HBB.out (by simp)
      have HL := Lib.hid k1
      have HKL := Lib.hid k2
      clear k1 k2
      have HRUN := Lib.hid (fun (W : World) (t : Tch [] w1 W) (hW : W.heap[w1.heap.size + 1]? = some (.cells #[.int .i64 0, .slice ba l.length bc, .string ⟨#[]⟩, .int .u64 id, .int .i64 4, .slice ka key.length kc, .string ⟨#[]⟩, .int .u64 0, .int .i64 2, .slice ba l.length bc, .string ⟨#[]⟩, .int .u64 id, .int .i64 4, .slice ka key.length kc, .string ⟨#[]⟩, .int .u64 0] 28 (0, 0))) =>
        runTrie_any [⟨0, l, [], id⟩, ⟨4, key, [], 0⟩, ⟨2, l, [], id⟩, ⟨4, key, [], 0⟩] (some ⟨w1.heap.size + 1, 0, none⟩) 4 W (by simp)
          (steps_lit (L := [⟨⟨0, l, [], id⟩, ba, bc⟩, ⟨⟨4, key, [], 0⟩, ka, kc⟩, ⟨⟨2, l, [], id⟩, ba, bc⟩, ⟨⟨4, key, [], 0⟩, ka, kc⟩]) hW rfl (fun x hx => by
            simp only [List.mem_cons, List.not_mem_nil, or_false] at hx
            rcases hx with rfl | rfl | rfl | rfl
            · exact HB.out.tch (HT1.out.trans t)
            · exact HK.out.tch (HT1.out.trans t)
            · exact HB.out.tch (HT1.out.trans t)
            · exact HK.out.tch (HT1.out.trans t)))
          (fun i hi => by
            have h1 := HL.out
            have h2 := HKL.out
            have hb : ∀ (kd : Int) (bs : List Int) (ix : Int), bs.length ≤ 10000 → kd ≠ 1 ∧ kd ≠ 3 → okS ⟨kd, bs, [], ix⟩ := fun kd bs ix h3 h4 => ⟨by show bs.length ≤ 20000; omega, by show 0 ≤ 1000000; omega, fun h => by simp only [] at h; rcases h with h | h; exact absurd h h4.1; exact absurd h h4.2⟩
            match i, hi with
            | 0, _ => exact hb 0 l id h1 (by decide)
            | 1, _ => exact hb 4 key 0 h2 (by decide)
            | 2, _ => exact hb 2 l id h1 (by decide)
            | 3, _ => exact hb 4 key 0 h2 (by decide)) (HTB.out.tch (HT1.out.trans t)))
      have HT2 := Lib.hid (((Tch.refl [] w1).alloc (.cells #[.int .i64 4, .slice ka key.length kc, .string ⟨#[]⟩, .int .u64 0] 28)).alloc (.cells #[.int .i64 0, .slice ba l.length bc, .string ⟨#[]⟩, .int .u64 id, .int .i64 4, .slice ka key.length kc, .string ⟨#[]⟩, .int .u64 0, .int .i64 2, .slice ba l.length bc, .string ⟨#[]⟩, .int .u64 id, .int .i64 4, .slice ka key.length kc, .string ⟨#[]⟩, .int .u64 0] 28))
      go_wp2_with fail
      refine (HRUN.out _ HT2.out (by rw [heap_get_alloc, if_pos (by simp)])).mono ?_
      intro e w2 hE
      obtain ⟨g, oc, outs, rfl, ho, t, hc⟩ := told_of hE (by simp)
      rw [prefix_run] at ho
      have HF := Lib.hid (fun h => fits_take (l := l) (key := key) HB.out.u8 HK.out.u8 h)
      have HFI := Lib.hid (fitsP_iff l (fun _ => false) key)
      generalize fitsP (pathOf (fun _ => false) l) key = b at *
      rcases outs with _ | ⟨p0, _ | ⟨p1, _ | ⟨p2, _ | ⟨p3, _ | ⟨p4, r⟩⟩⟩⟩⟩ <;> simp at ho
      obtain ⟨o0, o1, o2, o3⟩ := ho
      obtain ⟨c1, a1, q1, e1, u1⟩ := hc 1 p1 rfl
      obtain ⟨c2, -⟩ := hc 2 p2 rfl
      obtain ⟨c3, a3, q3, e3, -⟩ := hc 3 p3 rfl
      have x5 := c1 1 (by omega)
      have x8 := c2 0 (by omega)
      have x13 := c3 1 (by omega)
      simp only [tolC, o2, o3, e1, e3, List.getElem?_cons_succ, List.getElem?_cons_zero, List.length_nil] at x5 x8 x13
      rw [o1] at x5 u1
      have HTF := Lib.hid ((HT1.out.trans HT2.out).trans t)
      have HU := Lib.hid u1
      have HB2 := Lib.hid (HB.out.tch ((HT1.out.trans HT2.out).trans t))
      have HK2 := Lib.hid (HK.out.tch ((HT1.out.trans HT2.out).trans t))
      clear hE t hc o0 o1 o2 o3 c1 c2 c3 e1 e3 u1 HRUN HT2
      simp only [List.length_cons, List.length_nil, Nat.zero_add, Nat.reduceAdd]
      by_cases hle : l.length ≤ key.length
      · have hle2 : (l.length : Int) ≤ (key.length : Int) := by omega
        have hled : decide ((l.length : Int) ≤ (key.length : Int)) = true := decide_eq_true hle2
        have hled2 : decide (l.length ≤ key.length) = true := decide_eq_true hle
        have hkc : key.length ≤ kc := HK.out.cap
        have hlc : (l.length : Int) ≤ (kc : Int) := by omega
        have hcv1 := fun n => conv_by (HK2.out.tch ((Tch.refl [] _).drewN n)) hle
        have hcv2 := fun n => conv_by (HB2.out.tch ((Tch.refl [] _).drewN n)) (Nat.le_refl _)
        have hfe := HF.out hle
        rw [List.take_length] at hcv2
        generalize bs (toB (key.take l.length)) = sa at hcv1 hfe
        generalize bs (toB l) = sb at hcv2 hfe
        clear HF HFI
        clear hle
        go_wp2_with fail
        go_quiet (fail)
        try simp only [hfe]
        have x5' : w2.cell? ⟨g, 5, none⟩ = some (.slice a1 (if b = true then [id] else []).length q1) := x5
        clear x5 hcv1 hcv2 hfe hle2 hled hled2 hkc hlc
        cases b with
        | true =>
          simp only [if_true, List.length_singleton] at x5'
          obtain ⟨ad, rfl, hid⟩ := HU.out.cell 0 (by simp)
          simp only [if_true, Addr.add, List.getD, List.getElem?_cons_zero, Option.getD_some] at hid
          have bb : (id == id) = true := by simp
          go_wp2_with fail
          go_ret
          exact ⟨rfl, HTF.out.drewN _⟩
        | false =>
          simp only [Bool.false_eq_true, if_false, List.length_nil] at x5'
          go_wp2_with fail
          go_ret
          exact ⟨rfl, HTF.out.drewN _⟩
      · have hle2 : (key.length : Int) < (l.length : Int) := by omega
        have hled : decide ((l.length : Int) ≤ (key.length : Int)) = false := decide_eq_false (by omega)
        have hled2 : decide (l.length ≤ key.length) = false := decide_eq_false hle
        have hb0 : b = false := by
          cases hb : b with
          | false => rfl
          | true => exact absurd (HFI.out.1 hb).1 hle
        subst hb0
        have x5' : w2.cell? ⟨g, 5, none⟩ = some (.slice a1 (if false = true then [id] else []).length q1) := x5
        simp only [Bool.false_eq_true, if_false, List.length_nil] at x5'
        clear HF HFI hle x5
        go_wp2_with fail
        go_quiet (fail)
        go_wp2_with fail
        go_ret
        exact ⟨rfl, HTF.out.drewN _⟩
  · clear hb hk ht
    by_cases h1 : l.length ≤ 2147483647
    · have g1 : (l.length : Int) ≤ 2147483647 := by omega
      have g2 : (2147483647 : Int) < (key.length : Int) := by omega
      clear hbig h1
      go_enter Tryz.func9, Tryz.ntmps9
      go_wp2_with fail
      go_ret
      exact ⟨rfl, Tch.refl _ _⟩
    · have g1 : (2147483647 : Int) < (l.length : Int) := by omega
      clear hbig h1
      go_enter Tryz.func9, Tryz.ntmps9
      go_wp2_with fail
      go_ret
      exact ⟨rfl, Tch.refl _ _⟩

end Go.Proofs.YtcolffccbmpndaaGreatDoor
