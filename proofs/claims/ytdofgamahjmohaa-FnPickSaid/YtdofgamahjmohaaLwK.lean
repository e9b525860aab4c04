/- spec.IsBase. -/
import Derived.Test.YtdofgamahjmohaaLwJ
namespace Go.Proofs.Ytdofgamahjmohaa
open Go.RowKit Go.Deep
set_option maxRecDepth 100000

/-- The last one of 1 .. i-1 with p, or 0. -/
def LastU (i : Nat) (p : Nat → Prop) (w : Nat) : Prop := (∀ j, w < j → j < i → ¬ p j) ∧ (w = 0 ∨ (w < i ∧ p w))
theorem LastU.hit {i : Nat} {p : Nat → Prop} (hp : p i) : LastU (i + 1) p i := ⟨fun j h1 h2 => by omega, .inr ⟨by omega, hp⟩⟩
theorem LastU.miss {i : Nat} {p : Nat → Prop} {w : Nat} (h : LastU i p w) (hp : ¬ p i) : LastU (i + 1) p w := ⟨fun j h1 h2 => by
  by_cases e : j = i
  · rw [e]; exact hp
  · exact h.1 j h1 (by omega), h.2.imp id (fun h => ⟨by omega, h.2⟩)⟩

theorem LvAt.lenAt {w : World} {LL : List (List Tb)} {ad : Addr} {c : Nat} (h : LvAt w LL (some ad) c) {i : Nat} (hi : i < LL.length) : ∃ ta tc, w.cell? (ad.add i) = some (.slice ta (LL.getD i []).length tc) := by
  obtain ⟨-, ta, tc, h1, -⟩ := h.at' ad rfl i hi
  exact ⟨ta, tc, h1⟩

set_option maxHeartbeats 4000000 in
theorem isBase_any (LL : List (List Tb)) (la : Option Addr) (c : Nat) (o : Op) (b : Nat) (w : World) (h : LvAt w LL la c) (hv : Valid LL o) (hb : Based LL o b) :
    Calls Try.prog 20 #[.slice la LL.length c, opV o, .int .i64 b] w fun e w' => e = .returned (.bool true) ∧ Tch [] w w' := by
  obtain ⟨m, hm⟩ : ∃ m, LL.length = m + 2 := ⟨LL.length - 2, by have := hv.op.n2; omega⟩
  have h7 := hv.op.n7
  have mi : (m : Int) ≤ 5 := by omega
  have HSZ := Lib.hid (fun w' (t : Tch [] w w') => spec_Sizes_any LL la c o w' (h.tch t) hv)
  have HLA := Lib.hid (fun w' (t : Tch [] w w') => h.tch t)
  have HE := Lib.hid (fun j hj => (szs_bound hv (j := j) hj).2.2)
  have hbr : 1 ≤ b ∧ b < m + 2 := by have := hb.weak.ranged hv.op.n2; omega
  have HB := Lib.hid (show GoBase (m + 2) (szs LL) (fun i => tgs LL o i ≤ o.bl) b by have := hb; unfold Based at this; have this := this.weak; rw [hm] at this; exact this)
  have HM := Lib.hid hm
  obtain ⟨lv, lt, tt, zt, bl, bt, mt, di⟩ := o
  cases la with
  | none => have := (h.nil rfl).2; rw [this] at hm; simp at hm
  | some ad =>
  rw [hm] at HSZ ⊢
  have T0 : Tch [] w (w.alloc (.cells (opA lv lt tt zt bl bt mt di) 32)) := (Tch.refl _ _).alloc _
  have HT0 := Lib.hid T0
  have HBX := Lib.hid (fun (w' : World) (t : Tch [] (w.alloc (.cells (opA lv lt tt zt bl bt mt di) 32)) w') (i : Nat) (v : Value) (hv : (opA lv lt tt zt bl bt mt di)[i]? = some v) => (show w'.cell? ⟨w.heap.size, i, none⟩ = some v by
    rw [cell_of_row w' _ _ _ 32 (0, 0) (t.obj (alloc_at rfl) (by simp))]; exact hv))
  have hr1 : ¬ ((b : Int) < 1) := by omega
  have hr2 : (b : Int) < (m : Int) + 2 := by omega
  have hr3 : (1 : Int) ≤ (b : Int) := by omega
  clear h hv hb hm hbr T0
  go_enter Try.func20, Try.ntmps20
  go_upto_region 5 with (go_at_call 34; refine (HSZ.out _ HT0.out).mono ?_; rintro e w1 ⟨g, rfl, k1, k2⟩; have HI := Lib.hid k1; have HT1 := Lib.hid k2; clear k1 k2)
  go_wp2_with fail
  go_loopg [9, 10] (m + 1) (fun nn s9 s10 wr => ∃ i wv : Nat, i ≤ m + 2 ∧ nn = m + 2 - i ∧ s9 = .int .i64 wv ∧ s10 = .int .i64 i ∧ Hid (1 ≤ i ∧ LastU i (fun i => tgs LL ⟨lv, lt, tt, zt, bl, bt, mt, di⟩ i ≤ bl) wv ∧ Tch [] w1 wr))
  case atStart => exact ⟨1, 0, by omega, rfl, by go_num, by go_num, Nat.le_refl _, ⟨fun j h1 h2 => by omega, .inl rfl⟩, Tch.refl _ _⟩
  case round =>
    obtain ⟨i, wv, hi, rfl, rfl, rfl, HR⟩ := hrel
    by_cases hlt : i < m + 2
    · have hlt2 : (i : Int) < (m : Int) + 2 := by omega
      have x := ((HI.out.tch HR.out.2.2).cell _ rfl i (by simpa using hlt)).2
      have e2 : ((List.range (m + 2)).map (tgs LL ⟨lv, lt, tt, zt, bl, bt, mt, di⟩)).getD i 0 = tgs LL ⟨lv, lt, tt, zt, bl, bt, mt, di⟩ i := by simp [List.getD, hlt]
      have e1 : (⟨g, 0, none⟩ : Addr).add i = ⟨g, i, none⟩ := by unfold Addr.add; split <;> simp_all
      rw [e1, e2] at x
      have o4 := HBX.out _ (HT1.out.trans HR.out.2.2) 4 _ rfl
      have HLT := Lib.hid hlt
      clear hlt e1 e2
      by_cases hle : tgs LL ⟨lv, lt, tt, zt, bl, bt, mt, di⟩ i ≤ bl
      · have HL := Lib.hid (LastU.hit (p := fun i => tgs LL ⟨lv, lt, tt, zt, bl, bt, mt, di⟩ i ≤ bl) hle)
        have hd : decide (tgs LL ⟨lv, lt, tt, zt, bl, bt, mt, di⟩ i ≤ bl) = true := by simpa using hle
        generalize hv : tgs LL ⟨lv, lt, tt, zt, bl, bt, mt, di⟩ i = v at x hd hle
        clear hv
        clear hle
        go_wp2_with fail
        go_quiet (fail)
        go_wp2_with fail
        go_roundg (m + 2 - (i + 1))
        case rel => exact ⟨i + 1, i, by have := HLT.out; omega, rfl, by go_num, by go_num, by omega, HL.out, HR.out.2.2.drewN _⟩
        case measure => have := HLT.out; omega
      · have HL := Lib.hid (HR.out.2.1.miss hle)
        have hd : decide (tgs LL ⟨lv, lt, tt, zt, bl, bt, mt, di⟩ i ≤ bl) = false := by simpa using hle
        generalize hv : tgs LL ⟨lv, lt, tt, zt, bl, bt, mt, di⟩ i = v at x hd hle
        clear hv
        clear hle
        go_wp2_with fail
        go_quiet (fail)
        go_wp2_with fail
        go_roundg (m + 2 - (i + 1))
        case rel => exact ⟨i + 1, wv, by have := HLT.out; omega, rfl, by go_num, by go_num, by omega, HL.out, HR.out.2.2.drewN _⟩
        case measure => have := HLT.out; omega
    · obtain rfl : i = m + 2 := by omega
      clear hlt
      have HLS := Lib.hid (show LastP (m + 2) (fun i => tgs LL ⟨lv, lt, tt, zt, bl, bt, mt, di⟩ i ≤ bl) wv from HR.out.2.1)
      obtain ⟨w1', hw1⟩ : ∃ v, v = if wv = 0 then 1 else wv := ⟨_, rfl⟩
      have hmx : max (wv : Int) 1 = (w1' : Int) := by rw [hw1]; split <;> omega
      have HW1 := Lib.hid hw1
      have hw1r : 1 ≤ w1' ∧ w1' ≤ m + 1 := by have := HLS.out.2; rw [hw1]; split <;> omega
      have HWR := Lib.hid hw1r
      clear hw1 hw1r
      have HLE := Lib.hid (fun w' (t : Tch [] w w') (i : Nat) (hi : i < m + 2) => (HLA.out w' t).lenAt (i := i) (by have := HM.out; omega))
      have HTR := Lib.hid (HT0.out.trans (HT1.out.trans HR.out.2.2))
      clear HR
      go_upto_block 2 with fail
      go_cut [9] from 40 to 54 (fun s9 wx => ∃ v : Nat, s9 = .int .i64 v ∧ Hid (Down (m + 2) (szs LL) w1' v ∧ v ≤ m + 1 ∧ Tch [] w wx))
      case first =>
        go_wp2_with fail
        go_loopg [9] (m + 2 - w1') (fun nn s9 wx => ∃ v : Nat, v ≤ m + 1 ∧ nn = m + 2 - v ∧ s9 = .int .i64 v ∧ Hid (w1' ≤ v ∧ (v = w1' ∨ v + 2 ≤ m + 2) ∧ (∀ j, w1' < j → j ≤ v → szs LL j = 0) ∧ Tch [] w wx))
        case atStart => exact ⟨w1', HWR.out.2, rfl, by first | rfl | rw [hmx], Nat.le_refl _, .inl rfl, fun j h1 h2 => by omega, HTR.out⟩
        case round =>
          obtain ⟨v, hvm, rfl, rfl, HV⟩ := hrel
          by_cases hlt : v < m
          · have hlt2 : (v : Int) < (m : Int) := by omega
            have hlt3 : (v : Int) + 1 < (m : Int) + 2 := by omega
            obtain ⟨ta, tc, x⟩ := HLE.out _ HV.out.2.2.2 (v + 1) (by omega)
            have ea : ad.add (v + 1) = ⟨ad.block, ad.off + (v + 1), none⟩ := by unfold Addr.add; simp
            rw [ea] at x
            have HLT := Lib.hid hlt
            have HZ := Lib.hid (HE.out (v + 1) (by have := HM.out; omega))
            clear ea hlt
            by_cases hn : LL.getD (v + 1) [] = []
            · have HN := Lib.hid hn
              rw [hn] at x
              have x : wr.cell? ⟨ad.block, ad.off + (v + 1), none⟩ = some (.slice ta 0 tc) := x
              clear hn
              go_wp2_with fail
              go_roundg (m + 2 - (v + 1))
              case rel =>
                have hlt := HLT.out
                refine ⟨v + 1, by omega, rfl, by go_num, by have := HV.out.1; omega, .inr (by omega), fun j h1 h2 => ?_, HV.out.2.2.2⟩
                by_cases e : j = v + 1
                · rw [e]; exact HZ.out.2 HN.out
                · exact HV.out.2.2.1 j h1 (by omega)
              case measure => have hlt := HLT.out; omega
            · have HN := Lib.hid (show szs LL (v + 1) ≠ 0 from fun e => hn (HZ.out.1 e))
              have hl : (LL.getD (v + 1) []).length ≠ 0 := fun e => hn (List.length_eq_zero_iff.1 e)
              generalize (LL.getD (v + 1) []).length = l at *
              have hd1 : decide ((l : Int) = 0) = false := by simpa using hl
              have hd2 : ((l : Int) == 0) = false := by simpa using hl
              have hd3 : (l == 0) = false := by simpa using hl
              have hd4 : decide (l = 0) = false := by simpa using hl
              clear hn hl
              go_wp2_with fail
              go_meet
              exact ⟨v, rfl, ⟨HV.out.1, HV.out.2.1, HV.out.2.2.1, .inr HN.out⟩, by have := HLT.out; omega, HV.out.2.2.2⟩
          · have hlt2 : (m : Int) ≤ (v : Int) := by omega
            have HLT := Lib.hid hlt
            have HVM := Lib.hid hvm
            clear hlt hvm
            go_wp2_with fail
            go_meet
            exact ⟨v, rfl, ⟨HV.out.1, HV.out.2.1, HV.out.2.2.1, .inl (by have := HLT.out; omega)⟩, HVM.out, HV.out.2.2.2⟩
      case rest =>
        obtain ⟨v, rfl, HV⟩ := hcut
        have HF := Lib.hid (fun (f : Nat) (hf : FirstP (m + 2) (szs LL) f) => HB.out.fits (by omega) HLS.out (by rw [← HW1.out]; exact HV.out.1) hf)
        clear hmx
        go_wp2_with fail
        go_loopg [11, 12] (m + 1) (fun nn s11 s12 wx => ∃ i f : Nat, i ≤ m + 1 ∧ i = nn ∧ s11 = .int .i64 f ∧ s12 = .int .i64 i ∧ Hid (i < f ∧ f ≤ m + 2 ∧ (∀ j, i < j → j < f → szs LL j = 0) ∧ (f = m + 2 ∨ szs LL f ≠ 0) ∧ Tch [] w wx))
        case atStart => exact ⟨m + 1, m + 2, Nat.le_refl _, rfl, by go_num, by go_num, by omega, Nat.le_refl _, fun j h1 h2 => by omega, .inl rfl, HV.out.2.2⟩
        case round =>
          obtain ⟨i, f, hi, rfl, rfl, rfl, HR⟩ := hrel
          cases i with
          | succ q =>
            have hqm : (q : Int) + 1 < (m : Int) + 2 := by omega
            obtain ⟨ta, tc, x⟩ := HLE.out _ HR.out.2.2.2.2 (q + 1) (by omega)
            have ea : ad.add (q + 1) = ⟨ad.block, ad.off + (q + 1), none⟩ := by unfold Addr.add; simp
            rw [ea] at x
            have HZ := Lib.hid (HE.out (q + 1) (by have := HM.out; omega))
            have HI := Lib.hid hi
            clear ea
            by_cases hn : LL.getD (q + 1) [] = []
            · have HN := Lib.hid hn
              rw [hn] at x
              have x : wr.cell? ⟨ad.block, ad.off + (q + 1), none⟩ = some (.slice ta 0 tc) := x
              clear hn
              go_wp2_with fail
              go_roundg q
              case rel =>
                refine ⟨q, f, by have := HI.out; omega, rfl, rfl, by go_num, by have := HR.out.1; omega, HR.out.2.1, fun j h1 h2 => ?_, HR.out.2.2.2.1, HR.out.2.2.2.2⟩
                by_cases e : j = q + 1
                · rw [e]; exact HZ.out.2 HN.out
                · exact HR.out.2.2.1 j (by omega) h2
              case measure => omega
            · have HN := Lib.hid (show szs LL (q + 1) ≠ 0 from fun e => hn (HZ.out.1 e))
              have hl : (LL.getD (q + 1) []).length ≠ 0 := fun e => hn (List.length_eq_zero_iff.1 e)
              generalize (LL.getD (q + 1) []).length = l at *
              have hd1 : (0 : Int) < (l : Int) := by omega
              have hd2 : 0 < l := by omega
              clear hn hl
              go_wp2_with fail
              go_roundg q
              case rel => exact ⟨q, q + 1, by have := HI.out; omega, rfl, by go_num, by go_num, by omega, by have := HI.out; omega, fun j h1 h2 => by omega, .inr HN.out, HR.out.2.2.2.2⟩
              case measure => omega
          | zero =>
            have hfit := HF.out f ⟨by have := HR.out.1; omega, HR.out.2.1, fun j h1 h2 => HR.out.2.2.1 j (by omega) h2, HR.out.2.2.2.1⟩
            by_cases e1 : b = min v f
            · have hmn : min (v : Int) (f : Int) = (b : Int) := by omega
              clear hfit e1
              go_wp2_with fail
              go_ret
              exact ⟨rfl, HR.out.2.2.2.2⟩
            · have hfit := hfit.resolve_left e1
              obtain ⟨f1, f2, f3⟩ := hfit
              obtain ⟨z, hz⟩ : ∃ z : Nat, z = min v f := ⟨_, rfl⟩
              have hmn : min (v : Int) (f : Int) = (z : Int) := by omega
              have hmn2 : min ((v : Int) + 1) (f : Int) = (b : Int) := by omega
              have hzb : ¬ b = z := by omega
              have hzb1 : decide ((b : Int) = (z : Int)) = false := by simp; omega
              have hzb2 : ((b : Int) == (z : Int)) = false := by simp; omega
              have hzb3 : (b == z) = false := by simp; omega
              have hzb4 : decide (b = z) = false := by simp; omega
              have hv2 : (v : Int) < (m : Int) + 2 := by omega
              have hv1 : (v : Int) < (m : Int) + 1 := by omega
              obtain ⟨ta, tc, x⟩ := HLE.out _ HR.out.2.2.2.2 v (by omega)
              have hn := (HE.out v (by have := HM.out; omega)).1 f2
              rw [hn] at x
              have x : wr.cell? (ad.add v) = some (.slice ta 0 tc) := x
              clear hn f1 f2 f3 e1 hz hzb
              go_wp2_with fail
              go_ret
              refine ⟨?_, HR.out.2.2.2.2⟩
              show Ending.returned (.bool (decide ((v : Int) < (m : Int) + 2 - 1))) = _
              rw [decide_eq_true (show (v : Int) < (m : Int) + 2 - 1 by omega)]

end Go.Proofs.Ytdofgamahjmohaa
