/- spec.place. -/
import Derived.Test.YtcolffccbmpndaaGreatDoorIgI
import Derived.BigQuiet
namespace Go.Proofs.YtcolffccbmpndaaGreatDoor
open Go.RowKit Go.Deep
set_option maxRecDepth 100000

/-- A byte of a text as a number. -/
def byI (l : List UInt8) (i : Nat) : Int := ((l.getD i 0).toNat : Int)
theorem byI_get (l : List UInt8) : ∀ (n : Nat) (h : n < (bs l).size), (((bs l)[n]'h).toNat : Int) = byI l n := fun n h => by
  have h2 : n < l.length := by rw [← bs_size l]; exact h
  unfold byI
  simp only [List.getD, List.getElem?_eq_getElem h2, Option.getD_some]
  rfl
theorem byI_nonneg (l : List UInt8) (i : Nat) : 0 ≤ byI l i := by unfold byI; omega
theorem byI_le (l : List UInt8) (i : Nat) : byI l i ≤ 255 := by unfold byI; have := (l.getD i 0).toNat_lt; omega
theorem drop_getD {l : List UInt8} {i : Nat} (h : i < l.length) : l.drop i = l.getD i 0 :: l.drop (i + 1) := by
  rw [List.drop_eq_getElem_cons h]; simp [List.getD, List.getElem?_eq_getElem h]
theorem sp_succ (n : Nat) (t : List UInt8) : sp n ++ 32 :: t = sp (n + 1) ++ t := by
  unfold sp; rw [List.replicate_succ']; simp
theorem val_snoc (ds : List UInt8) (x : UInt8) : val (ds ++ [x]) = 10 * val ds + (x.toNat - 48) := by
  unfold val; rw [List.foldl_append]; rfl
theorem val_le5 : ∀ (ds : List UInt8), (∀ x ∈ ds, isD x) → ds.length ≤ 5 → val ds ≤ 99999 := by
  intro ds h hl
  have step : ∀ (l : List UInt8) (acc : Nat), (∀ x ∈ l, isD x) → l.foldl (fun n x => 10 * n + (x.toNat - 48)) acc + 1 ≤ (acc + 1) * 10 ^ l.length := by
    intro l
    induction l with
    | nil => intro acc _; simp
    | cons b t ih =>
      intro acc hl
      have hb := hl b (by simp)
      have := ih (10 * acc + (b.toNat - 48)) (fun x hx => hl x (by simp [hx]))
      rw [List.foldl_cons, List.length_cons, Nat.pow_succ]
      have h9 : 10 * acc + (b.toNat - 48) + 1 ≤ (acc + 1) * 10 := by have := hb.2; omega
      calc _ ≤ (10 * acc + (b.toNat - 48) + 1) * 10 ^ t.length := this
        _ ≤ ((acc + 1) * 10) * 10 ^ t.length := Nat.mul_le_mul_right _ h9
        _ = (acc + 1) * (10 ^ t.length * 10) := by rw [Nat.mul_assoc, Nat.mul_comm 10]
  have h1 := step ds 0 h
  have h2 : 10 ^ ds.length ≤ 10 ^ 5 := Nat.pow_le_pow_right (by omega) hl
  unfold val
  omega

/-- What place reads. -/
def PlaceEnd (l : List UInt8) (k : Nat) (w : World) (e : Ending) (w' : World) : Prop :=
  ∃ (n q : Nat) (ok : Bool), e = .returned (.tuple #[.int .i64 n, .int .i64 q, .bool ok]) ∧ Tch [] w w' ∧ q ≤ l.length ∧ n ≤ 99999 ∧ (ok = true → ∃ a ds b, l.drop k = sp a ++ (ds ++ (sp b ++ l.drop q)) ∧ Ds ds ∧ n = val ds)

set_option maxHeartbeats 4000000 in
theorem place_any (l : List UInt8) (k : Nat) (w : World) (hl : l.length ≤ 1000000) (hk : k ≤ l.length) :
    Calls Tryz.prog 34 #[.string (bs l), .int .i64 k] w (PlaceEnd l k w) := by
  have hs := bs_size l
  have hb := byI_get l
  have hl2 : (l.length : Int) ≤ 1000000 := by omega
  go_enter Tryz.func34, Tryz.ntmps34
  go_wp2_with fail
  go_loopg [1] (l.length - k) (fun nn s1 wr => ∃ i : Nat, k ≤ i ∧ i ≤ l.length ∧ nn = l.length - i ∧ s1 = .int .i64 i ∧ Hid (l.drop k = sp (i - k) ++ l.drop i ∧ Tch [] w wr))
  case atStart => exact ⟨k, Nat.le_refl _, hk, rfl, rfl, by simp [sp], Tch.refl _ _⟩
  case round =>
    obtain ⟨i, hi1, hi2, rfl, rfl, HR⟩ := hrel
    have HI := Lib.hid (⟨hi1, hi2⟩ : _ ∧ _)
    clear hi1 hi2
    by_cases hsp : i < l.length ∧ l.getD i 0 = 32
    · have hlt2 : (i : Int) < (l.length : Int) := by omega
      have hlt := hsp.1
      have hbb : byI l i = 32 := by unfold byI; rw [hsp.2]; rfl
      have hix : (i : Int) ≤ 1000000 := by omega
      have HSP := Lib.hid hsp
      clear hsp
      go_wp2_with fail
      go_roundg (l.length - (i + 1))
      case rel =>
        have h1 := HSP.out
        refine ⟨i + 1, by have := HI.out; omega, h1.1, rfl, by go_num, ?_, HR.out.2⟩
        rw [HR.out.1, drop_getD h1.1, h1.2, sp_succ]
        congr 2
        have := HI.out
        omega
      case measure => have := HSP.out.1; omega
    · have HR1 := Lib.hid HR.out.1
      have HRT := Lib.hid HR.out.2
      have hle : i ≤ l.length := HI.out.2
      have hix : (i : Int) ≤ 1000000 := by omega
      have hor : (l.length ≤ i) ∨ (i < l.length ∧ byI l i ≠ 32) := by
        rcases Nat.lt_or_ge i l.length with h | h
        · refine .inr ⟨h, fun e => hsp ⟨h, ?_⟩⟩
          unfold byI at e
          exact UInt8.toNat_inj.1 (by rw [show (32 : UInt8).toNat = 32 from rfl]; omega)
        · exact .inl h
      clear hsp HR
      rcases hor with hge | ⟨hlt, hby⟩
      · have hde : decide (i < l.length) = false := decide_eq_false (by omega)
        have hde2 : decide ((i : Int) < (l.length : Int)) = false := decide_eq_false (by omega)
        have hge2 : (l.length : Int) ≤ (i : Int) := by omega
        go_wp2_with fail
        clear hde hde2 hge hge2
        go_loopg [1, 7, 8] (l.length - i) (fun nn s1 s7 s8 wz => ∃ (j : Nat) (dz : List UInt8), i ≤ j ∧ j ≤ l.length ∧ nn = l.length - j ∧ s1 = .int .i64 j ∧ s7 = .int .i64 (val dz : Nat) ∧ s8 = .int .i64 dz.length ∧ Hid (((∀ x ∈ dz, isD x) ∧ dz.length ≤ 5 ∧ l.drop i = dz ++ l.drop j) ∧ Tch [] w wz))
        case atStart => exact ⟨i, [], Nat.le_refl _, HI.out.2, rfl, rfl, rfl, rfl, ⟨by simp, by simp, rfl⟩, HRT.out⟩
        case round =>
          obtain ⟨j, dz, hj1, hj2, rfl, rfl, rfl, rfl, HZZ⟩ := hrel
          rename World => wz
          have HJ := Lib.hid (⟨hj1, hj2⟩ : _ ∧ _)
          have HZ := Lib.hid HZZ.out.1
          have HZT := Lib.hid HZZ.out.2
          have hv : val dz ≤ 99999 := val_le5 _ HZ.out.1 HZ.out.2.1
          have hv2 : (val dz : Int) ≤ 99999 := by omega
          clear hj1 hj2 HZZ
          have hjx : (j : Int) ≤ 1000000 := by have := HJ.out.2; omega
          have hn0 := byI_nonneg l j
          have hn1 := byI_le l j
          by_cases hall : j < l.length ∧ 48 ≤ byI l j ∧ byI l j ≤ 57 ∧ dz.length < 5
          · obtain ⟨hlt, h48, h57, hl5⟩ := hall
            have hlt2 : (j : Int) < (l.length : Int) := by omega
            have hl52 : (dz.length : Int) < 5 := by omega
            have HSP := Lib.hid (⟨hlt, h48, h57, hl5⟩ : _ ∧ _ ∧ _ ∧ _)
            clear hl5
            go_wp2_with fail
            go_roundg (l.length - (j + 1))
            case rel =>
              obtain ⟨h1, h2, h3, h4⟩ := HSP.out
              unfold byI at h2 h3
              refine ⟨j + 1, dz ++ [l.getD j 0], by have := HJ.out; omega, h1, rfl, by go_num, ?_, by rw [List.length_append]; rfl, ⟨fun x hx => ?_, by rw [List.length_append, List.length_singleton]; omega, ?_⟩, HZT.out⟩
              · rw [val_snoc]
                unfold byI
                congr 1
                omega
              · rcases List.mem_append.1 hx with hx | hx
                · exact HZ.out.1 x hx
                · rw [List.mem_singleton.1 hx]; unfold isD; omega
              · rw [HZ.out.2.2, drop_getD h1, List.append_assoc]; rfl
            case measure => have := HSP.out.1; omega
          · have hor : (l.length ≤ j) ∨ (j < l.length ∧ byI l j < 48) ∨ (j < l.length ∧ 48 ≤ byI l j ∧ 57 < byI l j) ∨ (j < l.length ∧ 48 ≤ byI l j ∧ byI l j ≤ 57 ∧ dz.length = 5) := by
              have := HZ.out.2.1
              omega
            clear hall
            rcases hor with hge | ⟨hlt, hby⟩ | ⟨hlt, hb1, hby⟩ | ⟨hlt, hb1, hb3, hb5⟩
            · have hde : decide (j < l.length) = false := decide_eq_false (by omega)
              have hde2 : decide ((j : Int) < (l.length : Int)) = false := decide_eq_false (by omega)
              have hge2 : (l.length : Int) ≤ (j : Int) := by omega
              go_wp2_with fail
              clear hde hde2 hge hge2 hn0 hn1 hv hv2
              go_loopg [1] (l.length - j) (fun nn s1 wy => ∃ q : Nat, j ≤ q ∧ q ≤ l.length ∧ nn = l.length - q ∧ s1 = .int .i64 q ∧ Hid (l.drop j = sp (q - j) ++ l.drop q ∧ Tch [] w wy))
              case atStart => exact ⟨j, Nat.le_refl _, HJ.out.2, rfl, rfl, by simp [sp], HZT.out⟩
              case round =>
                obtain ⟨q, hq1, hq2, rfl, rfl, HQ⟩ := hrel
                rename World => wy
                have HQJ := Lib.hid (⟨hq1, hq2⟩ : _ ∧ _)
                clear hq1 hq2
                by_cases hsp : q < l.length ∧ l.getD q 0 = 32
                · have hlt2 : (q : Int) < (l.length : Int) := by omega
                  have hlt := hsp.1
                  have hbb : byI l q = 32 := by unfold byI; rw [hsp.2]; rfl
                  have hqx : (q : Int) ≤ 1000000 := by omega
                  have HSP := Lib.hid hsp
                  clear hsp
                  go_wp2_with fail
                  go_roundg (l.length - (q + 1))
                  case rel =>
                    have h1 := HSP.out
                    refine ⟨q + 1, by have := HQJ.out; omega, h1.1, rfl, by go_num, ?_, HQ.out.2⟩
                    rw [HQ.out.1, drop_getD h1.1, h1.2, sp_succ]
                    congr 2
                    have := HQJ.out
                    omega
                  case measure => have := HSP.out.1; omega
                · have HQ1 := Lib.hid HQ.out.1
                  have HQT := Lib.hid HQ.out.2
                  have hle : q ≤ l.length := HQJ.out.2
                  have hqx : (q : Int) ≤ 1000000 := by omega
                  have hor : (l.length ≤ q) ∨ (q < l.length ∧ byI l q ≠ 32) := by
                    rcases Nat.lt_or_ge q l.length with h | h
                    · refine .inr ⟨h, fun e => hsp ⟨h, ?_⟩⟩
                      unfold byI at e
                      exact UInt8.toNat_inj.1 (by rw [show (32 : UInt8).toNat = 32 from rfl]; omega)
                    · exact .inl h
                  clear hsp HQ
                  have hd5 : dz.length ≤ 5 := HZ.out.2.1
                  have hdc : ((0 : Int) < (dz.length : Int) ∧ (dz.length : Int) < 5 ∧ 0 < dz.length ∧ dz.length < 5) ∨ ((dz.length : Int) = 0 ∧ dz.length = 0) ∨ ((dz.length : Int) = 5 ∧ dz.length = 5 ∧ decide ((dz.length : Int) < 5) = false) := by
                    by_cases h0 : dz.length = 0
                    · right; left; exact ⟨by omega, h0⟩
                    · by_cases h5 : dz.length = 5
                      · right; right; exact ⟨by omega, h5, decide_eq_false (by omega)⟩
                      · left; omega
                  rcases hor with hge | ⟨hlt, hby⟩
                  · have hde : decide (q < l.length) = false := decide_eq_false (by omega)
                    have hde2 : decide ((q : Int) < (l.length : Int)) = false := decide_eq_false (by omega)
                    have hge2 : (l.length : Int) ≤ (q : Int) := by omega
                    rcases hdc with ⟨g1, g2, g3, g4⟩ | ⟨g1, g2⟩ | ⟨g1, g2, g3⟩
                    · have HG := Lib.hid (⟨g3, g4⟩ : _ ∧ _)
                      go_wp2_with fail
                      go_ret3
                      exact ⟨val dz, q, true, rfl, HQT.out, HQJ.out.2, val_le5 _ HZ.out.1 HZ.out.2.1, fun _ => ⟨_, dz, _, by rw [HR1.out, HZ.out.2.2, HQ1.out], ⟨by intro e; have := HG.out.1; rw [e] at this; simp at this, by have := HG.out.2; omega, HZ.out.1⟩, rfl⟩⟩
                    · have hdz : dz = [] := List.length_eq_zero_iff.1 g2
                      subst hdz
                      clear g1 g2
                      go_wp2_with fail
                      go_ret3
                      exact ⟨val [], q, false, rfl, HQT.out, HQJ.out.2, val_le5 _ HZ.out.1 HZ.out.2.1, fun h => by simp at h⟩
                    · go_wp2_with fail
                      go_ret3
                      exact ⟨val dz, q, false, rfl, HQT.out, HQJ.out.2, val_le5 _ HZ.out.1 HZ.out.2.1, fun h => by simp at h⟩
                  · have hlt2 : (q : Int) < (l.length : Int) := by omega
                    have hbe : (byI l q == 32) = false := beq_eq_false_iff_ne.2 hby
                    have hbe2 : decide (byI l q = 32) = false := decide_eq_false hby
                    rcases hdc with ⟨g1, g2, g3, g4⟩ | ⟨g1, g2⟩ | ⟨g1, g2, g3⟩
                    · have HG := Lib.hid (⟨g3, g4⟩ : _ ∧ _)
                      go_wp2_with fail
                      go_ret3
                      exact ⟨val dz, q, true, rfl, HQT.out, HQJ.out.2, val_le5 _ HZ.out.1 HZ.out.2.1, fun _ => ⟨_, dz, _, by rw [HR1.out, HZ.out.2.2, HQ1.out], ⟨by intro e; have := HG.out.1; rw [e] at this; simp at this, by have := HG.out.2; omega, HZ.out.1⟩, rfl⟩⟩
                    · have hdz : dz = [] := List.length_eq_zero_iff.1 g2
                      subst hdz
                      clear g1 g2
                      go_wp2_with fail
                      go_ret3
                      exact ⟨val [], q, false, rfl, HQT.out, HQJ.out.2, val_le5 _ HZ.out.1 HZ.out.2.1, fun h => by simp at h⟩
                    · go_wp2_with fail
                      go_ret3
                      exact ⟨val dz, q, false, rfl, HQT.out, HQJ.out.2, val_le5 _ HZ.out.1 HZ.out.2.1, fun h => by simp at h⟩
            · have hlt2 : (j : Int) < (l.length : Int) := by omega
              go_wp2_with fail
              clear hlt hlt2 hby hn0 hn1 hv hv2
              go_loopg [1] (l.length - j) (fun nn s1 wy => ∃ q : Nat, j ≤ q ∧ q ≤ l.length ∧ nn = l.length - q ∧ s1 = .int .i64 q ∧ Hid (l.drop j = sp (q - j) ++ l.drop q ∧ Tch [] w wy))
              case atStart => exact ⟨j, Nat.le_refl _, HJ.out.2, rfl, rfl, by simp [sp], HZT.out⟩
              case round =>
                obtain ⟨q, hq1, hq2, rfl, rfl, HQ⟩ := hrel
                rename World => wy
                have HQJ := Lib.hid (⟨hq1, hq2⟩ : _ ∧ _)
                clear hq1 hq2
                by_cases hsp : q < l.length ∧ l.getD q 0 = 32
                · have hlt2 : (q : Int) < (l.length : Int) := by omega
                  have hlt := hsp.1
                  have hbb : byI l q = 32 := by unfold byI; rw [hsp.2]; rfl
                  have hqx : (q : Int) ≤ 1000000 := by omega
                  have HSP := Lib.hid hsp
                  clear hsp
                  go_wp2_with fail
                  go_roundg (l.length - (q + 1))
                  case rel =>
                    have h1 := HSP.out
                    refine ⟨q + 1, by have := HQJ.out; omega, h1.1, rfl, by go_num, ?_, HQ.out.2⟩
                    rw [HQ.out.1, drop_getD h1.1, h1.2, sp_succ]
                    congr 2
                    have := HQJ.out
                    omega
                  case measure => have := HSP.out.1; omega
                · have HQ1 := Lib.hid HQ.out.1
                  have HQT := Lib.hid HQ.out.2
                  have hle : q ≤ l.length := HQJ.out.2
                  have hqx : (q : Int) ≤ 1000000 := by omega
                  have hor : (l.length ≤ q) ∨ (q < l.length ∧ byI l q ≠ 32) := by
                    rcases Nat.lt_or_ge q l.length with h | h
                    · refine .inr ⟨h, fun e => hsp ⟨h, ?_⟩⟩
                      unfold byI at e
                      exact UInt8.toNat_inj.1 (by rw [show (32 : UInt8).toNat = 32 from rfl]; omega)
                    · exact .inl h
                  clear hsp HQ
                  have hd5 : dz.length ≤ 5 := HZ.out.2.1
                  have hdc : ((0 : Int) < (dz.length : Int) ∧ (dz.length : Int) < 5 ∧ 0 < dz.length ∧ dz.length < 5) ∨ ((dz.length : Int) = 0 ∧ dz.length = 0) ∨ ((dz.length : Int) = 5 ∧ dz.length = 5 ∧ decide ((dz.length : Int) < 5) = false) := by
                    by_cases h0 : dz.length = 0
                    · right; left; exact ⟨by omega, h0⟩
                    · by_cases h5 : dz.length = 5
                      · right; right; exact ⟨by omega, h5, decide_eq_false (by omega)⟩
                      · left; omega
                  rcases hor with hge | ⟨hlt, hby⟩
                  · have hde : decide (q < l.length) = false := decide_eq_false (by omega)
                    have hde2 : decide ((q : Int) < (l.length : Int)) = false := decide_eq_false (by omega)
                    have hge2 : (l.length : Int) ≤ (q : Int) := by omega
                    rcases hdc with ⟨g1, g2, g3, g4⟩ | ⟨g1, g2⟩ | ⟨g1, g2, g3⟩
                    · have HG := Lib.hid (⟨g3, g4⟩ : _ ∧ _)
                      go_wp2_with fail
                      go_ret3
                      exact ⟨val dz, q, true, rfl, HQT.out, HQJ.out.2, val_le5 _ HZ.out.1 HZ.out.2.1, fun _ => ⟨_, dz, _, by rw [HR1.out, HZ.out.2.2, HQ1.out], ⟨by intro e; have := HG.out.1; rw [e] at this; simp at this, by have := HG.out.2; omega, HZ.out.1⟩, rfl⟩⟩
                    · have hdz : dz = [] := List.length_eq_zero_iff.1 g2
                      subst hdz
                      clear g1 g2
                      go_wp2_with fail
                      go_ret3
                      exact ⟨val [], q, false, rfl, HQT.out, HQJ.out.2, val_le5 _ HZ.out.1 HZ.out.2.1, fun h => by simp at h⟩
                    · go_wp2_with fail
                      go_ret3
                      exact ⟨val dz, q, false, rfl, HQT.out, HQJ.out.2, val_le5 _ HZ.out.1 HZ.out.2.1, fun h => by simp at h⟩
                  · have hlt2 : (q : Int) < (l.length : Int) := by omega
                    have hbe : (byI l q == 32) = false := beq_eq_false_iff_ne.2 hby
                    have hbe2 : decide (byI l q = 32) = false := decide_eq_false hby
                    rcases hdc with ⟨g1, g2, g3, g4⟩ | ⟨g1, g2⟩ | ⟨g1, g2, g3⟩
                    · have HG := Lib.hid (⟨g3, g4⟩ : _ ∧ _)
                      go_wp2_with fail
                      go_ret3
                      exact ⟨val dz, q, true, rfl, HQT.out, HQJ.out.2, val_le5 _ HZ.out.1 HZ.out.2.1, fun _ => ⟨_, dz, _, by rw [HR1.out, HZ.out.2.2, HQ1.out], ⟨by intro e; have := HG.out.1; rw [e] at this; simp at this, by have := HG.out.2; omega, HZ.out.1⟩, rfl⟩⟩
                    · have hdz : dz = [] := List.length_eq_zero_iff.1 g2
                      subst hdz
                      clear g1 g2
                      go_wp2_with fail
                      go_ret3
                      exact ⟨val [], q, false, rfl, HQT.out, HQJ.out.2, val_le5 _ HZ.out.1 HZ.out.2.1, fun h => by simp at h⟩
                    · go_wp2_with fail
                      go_ret3
                      exact ⟨val dz, q, false, rfl, HQT.out, HQJ.out.2, val_le5 _ HZ.out.1 HZ.out.2.1, fun h => by simp at h⟩
            · have hlt2 : (j : Int) < (l.length : Int) := by omega
              go_wp2_with fail
              clear hlt hlt2 hby hb1 hn0 hn1 hv hv2
              go_loopg [1] (l.length - j) (fun nn s1 wy => ∃ q : Nat, j ≤ q ∧ q ≤ l.length ∧ nn = l.length - q ∧ s1 = .int .i64 q ∧ Hid (l.drop j = sp (q - j) ++ l.drop q ∧ Tch [] w wy))
              case atStart => exact ⟨j, Nat.le_refl _, HJ.out.2, rfl, rfl, by simp [sp], HZT.out⟩
              case round =>
                obtain ⟨q, hq1, hq2, rfl, rfl, HQ⟩ := hrel
                rename World => wy
                have HQJ := Lib.hid (⟨hq1, hq2⟩ : _ ∧ _)
                clear hq1 hq2
                by_cases hsp : q < l.length ∧ l.getD q 0 = 32
                · have hlt2 : (q : Int) < (l.length : Int) := by omega
                  have hlt := hsp.1
                  have hbb : byI l q = 32 := by unfold byI; rw [hsp.2]; rfl
                  have hqx : (q : Int) ≤ 1000000 := by omega
                  have HSP := Lib.hid hsp
                  clear hsp
                  go_wp2_with fail
                  go_roundg (l.length - (q + 1))
                  case rel =>
                    have h1 := HSP.out
                    refine ⟨q + 1, by have := HQJ.out; omega, h1.1, rfl, by go_num, ?_, HQ.out.2⟩
                    rw [HQ.out.1, drop_getD h1.1, h1.2, sp_succ]
                    congr 2
                    have := HQJ.out
                    omega
                  case measure => have := HSP.out.1; omega
                · have HQ1 := Lib.hid HQ.out.1
                  have HQT := Lib.hid HQ.out.2
                  have hle : q ≤ l.length := HQJ.out.2
                  have hqx : (q : Int) ≤ 1000000 := by omega
                  have hor : (l.length ≤ q) ∨ (q < l.length ∧ byI l q ≠ 32) := by
                    rcases Nat.lt_or_ge q l.length with h | h
                    · refine .inr ⟨h, fun e => hsp ⟨h, ?_⟩⟩
                      unfold byI at e
                      exact UInt8.toNat_inj.1 (by rw [show (32 : UInt8).toNat = 32 from rfl]; omega)
                    · exact .inl h
                  clear hsp HQ
                  have hd5 : dz.length ≤ 5 := HZ.out.2.1
                  have hdc : ((0 : Int) < (dz.length : Int) ∧ (dz.length : Int) < 5 ∧ 0 < dz.length ∧ dz.length < 5) ∨ ((dz.length : Int) = 0 ∧ dz.length = 0) ∨ ((dz.length : Int) = 5 ∧ dz.length = 5 ∧ decide ((dz.length : Int) < 5) = false) := by
                    by_cases h0 : dz.length = 0
                    · right; left; exact ⟨by omega, h0⟩
                    · by_cases h5 : dz.length = 5
                      · right; right; exact ⟨by omega, h5, decide_eq_false (by omega)⟩
                      · left; omega
                  rcases hor with hge | ⟨hlt, hby⟩
                  · have hde : decide (q < l.length) = false := decide_eq_false (by omega)
                    have hde2 : decide ((q : Int) < (l.length : Int)) = false := decide_eq_false (by omega)
                    have hge2 : (l.length : Int) ≤ (q : Int) := by omega
                    rcases hdc with ⟨g1, g2, g3, g4⟩ | ⟨g1, g2⟩ | ⟨g1, g2, g3⟩
                    · have HG := Lib.hid (⟨g3, g4⟩ : _ ∧ _)
                      go_wp2_with fail
                      go_ret3
                      exact ⟨val dz, q, true, rfl, HQT.out, HQJ.out.2, val_le5 _ HZ.out.1 HZ.out.2.1, fun _ => ⟨_, dz, _, by rw [HR1.out, HZ.out.2.2, HQ1.out], ⟨by intro e; have := HG.out.1; rw [e] at this; simp at this, by have := HG.out.2; omega, HZ.out.1⟩, rfl⟩⟩
                    · have hdz : dz = [] := List.length_eq_zero_iff.1 g2
                      subst hdz
                      clear g1 g2
                      go_wp2_with fail
                      go_ret3
                      exact ⟨val [], q, false, rfl, HQT.out, HQJ.out.2, val_le5 _ HZ.out.1 HZ.out.2.1, fun h => by simp at h⟩
                    · go_wp2_with fail
                      go_ret3
                      exact ⟨val dz, q, false, rfl, HQT.out, HQJ.out.2, val_le5 _ HZ.out.1 HZ.out.2.1, fun h => by simp at h⟩
                  · have hlt2 : (q : Int) < (l.length : Int) := by omega
                    have hbe : (byI l q == 32) = false := beq_eq_false_iff_ne.2 hby
                    have hbe2 : decide (byI l q = 32) = false := decide_eq_false hby
                    rcases hdc with ⟨g1, g2, g3, g4⟩ | ⟨g1, g2⟩ | ⟨g1, g2, g3⟩
                    · have HG := Lib.hid (⟨g3, g4⟩ : _ ∧ _)
                      go_wp2_with fail
                      go_ret3
                      exact ⟨val dz, q, true, rfl, HQT.out, HQJ.out.2, val_le5 _ HZ.out.1 HZ.out.2.1, fun _ => ⟨_, dz, _, by rw [HR1.out, HZ.out.2.2, HQ1.out], ⟨by intro e; have := HG.out.1; rw [e] at this; simp at this, by have := HG.out.2; omega, HZ.out.1⟩, rfl⟩⟩
                    · have hdz : dz = [] := List.length_eq_zero_iff.1 g2
                      subst hdz
                      clear g1 g2
                      go_wp2_with fail
                      go_ret3
                      exact ⟨val [], q, false, rfl, HQT.out, HQJ.out.2, val_le5 _ HZ.out.1 HZ.out.2.1, fun h => by simp at h⟩
                    · go_wp2_with fail
                      go_ret3
                      exact ⟨val dz, q, false, rfl, HQT.out, HQJ.out.2, val_le5 _ HZ.out.1 HZ.out.2.1, fun h => by simp at h⟩
            · have hlt2 : (j : Int) < (l.length : Int) := by omega
              have hb6 : (dz.length : Int) = 5 := by omega
              have hb7 : decide ((dz.length : Int) < 5) = false := decide_eq_false (by omega)
              go_wp2_with fail
              clear hlt hlt2 hb1 hb3 hb5 hb6 hb7 hn0 hn1 hv hv2
              go_loopg [1] (l.length - j) (fun nn s1 wy => ∃ q : Nat, j ≤ q ∧ q ≤ l.length ∧ nn = l.length - q ∧ s1 = .int .i64 q ∧ Hid (l.drop j = sp (q - j) ++ l.drop q ∧ Tch [] w wy))
              case atStart => exact ⟨j, Nat.le_refl _, HJ.out.2, rfl, rfl, by simp [sp], HZT.out⟩
              case round =>
                obtain ⟨q, hq1, hq2, rfl, rfl, HQ⟩ := hrel
                rename World => wy
                have HQJ := Lib.hid (⟨hq1, hq2⟩ : _ ∧ _)
                clear hq1 hq2
                by_cases hsp : q < l.length ∧ l.getD q 0 = 32
                · have hlt2 : (q : Int) < (l.length : Int) := by omega
                  have hlt := hsp.1
                  have hbb : byI l q = 32 := by unfold byI; rw [hsp.2]; rfl
                  have hqx : (q : Int) ≤ 1000000 := by omega
                  have HSP := Lib.hid hsp
                  clear hsp
                  go_wp2_with fail
                  go_roundg (l.length - (q + 1))
                  case rel =>
                    have h1 := HSP.out
                    refine ⟨q + 1, by have := HQJ.out; omega, h1.1, rfl, by go_num, ?_, HQ.out.2⟩
                    rw [HQ.out.1, drop_getD h1.1, h1.2, sp_succ]
                    congr 2
                    have := HQJ.out
                    omega
                  case measure => have := HSP.out.1; omega
                · have HQ1 := Lib.hid HQ.out.1
                  have HQT := Lib.hid HQ.out.2
                  have hle : q ≤ l.length := HQJ.out.2
                  have hqx : (q : Int) ≤ 1000000 := by omega
                  have hor : (l.length ≤ q) ∨ (q < l.length ∧ byI l q ≠ 32) := by
                    rcases Nat.lt_or_ge q l.length with h | h
                    · refine .inr ⟨h, fun e => hsp ⟨h, ?_⟩⟩
                      unfold byI at e
                      exact UInt8.toNat_inj.1 (by rw [show (32 : UInt8).toNat = 32 from rfl]; omega)
                    · exact .inl h
                  clear hsp HQ
                  have hd5 : dz.length ≤ 5 := HZ.out.2.1
                  have hdc : ((0 : Int) < (dz.length : Int) ∧ (dz.length : Int) < 5 ∧ 0 < dz.length ∧ dz.length < 5) ∨ ((dz.length : Int) = 0 ∧ dz.length = 0) ∨ ((dz.length : Int) = 5 ∧ dz.length = 5 ∧ decide ((dz.length : Int) < 5) = false) := by
                    by_cases h0 : dz.length = 0
                    · right; left; exact ⟨by omega, h0⟩
                    · by_cases h5 : dz.length = 5
                      · right; right; exact ⟨by omega, h5, decide_eq_false (by omega)⟩
                      · left; omega
                  rcases hor with hge | ⟨hlt, hby⟩
                  · have hde : decide (q < l.length) = false := decide_eq_false (by omega)
                    have hde2 : decide ((q : Int) < (l.length : Int)) = false := decide_eq_false (by omega)
                    have hge2 : (l.length : Int) ≤ (q : Int) := by omega
                    rcases hdc with ⟨g1, g2, g3, g4⟩ | ⟨g1, g2⟩ | ⟨g1, g2, g3⟩
                    · have HG := Lib.hid (⟨g3, g4⟩ : _ ∧ _)
                      go_wp2_with fail
                      go_ret3
                      exact ⟨val dz, q, true, rfl, HQT.out, HQJ.out.2, val_le5 _ HZ.out.1 HZ.out.2.1, fun _ => ⟨_, dz, _, by rw [HR1.out, HZ.out.2.2, HQ1.out], ⟨by intro e; have := HG.out.1; rw [e] at this; simp at this, by have := HG.out.2; omega, HZ.out.1⟩, rfl⟩⟩
                    · have hdz : dz = [] := List.length_eq_zero_iff.1 g2
                      subst hdz
                      clear g1 g2
                      go_wp2_with fail
                      go_ret3
                      exact ⟨val [], q, false, rfl, HQT.out, HQJ.out.2, val_le5 _ HZ.out.1 HZ.out.2.1, fun h => by simp at h⟩
                    · go_wp2_with fail
                      go_ret3
                      exact ⟨val dz, q, false, rfl, HQT.out, HQJ.out.2, val_le5 _ HZ.out.1 HZ.out.2.1, fun h => by simp at h⟩
                  · have hlt2 : (q : Int) < (l.length : Int) := by omega
                    have hbe : (byI l q == 32) = false := beq_eq_false_iff_ne.2 hby
                    have hbe2 : decide (byI l q = 32) = false := decide_eq_false hby
                    rcases hdc with ⟨g1, g2, g3, g4⟩ | ⟨g1, g2⟩ | ⟨g1, g2, g3⟩
                    · have HG := Lib.hid (⟨g3, g4⟩ : _ ∧ _)
                      go_wp2_with fail
                      go_ret3
                      exact ⟨val dz, q, true, rfl, HQT.out, HQJ.out.2, val_le5 _ HZ.out.1 HZ.out.2.1, fun _ => ⟨_, dz, _, by rw [HR1.out, HZ.out.2.2, HQ1.out], ⟨by intro e; have := HG.out.1; rw [e] at this; simp at this, by have := HG.out.2; omega, HZ.out.1⟩, rfl⟩⟩
                    · have hdz : dz = [] := List.length_eq_zero_iff.1 g2
                      subst hdz
                      clear g1 g2
                      go_wp2_with fail
                      go_ret3
                      exact ⟨val [], q, false, rfl, HQT.out, HQJ.out.2, val_le5 _ HZ.out.1 HZ.out.2.1, fun h => by simp at h⟩
                    · go_wp2_with fail
                      go_ret3
                      exact ⟨val dz, q, false, rfl, HQT.out, HQJ.out.2, val_le5 _ HZ.out.1 HZ.out.2.1, fun h => by simp at h⟩
      · have hlt2 : (i : Int) < (l.length : Int) := by omega
        have hbe : (byI l i == 32) = false := beq_eq_false_iff_ne.2 hby
        have hbe2 : decide (byI l i = 32) = false := decide_eq_false hby
        go_wp2_with fail
        clear hlt hlt2 hby hbe hbe2
        go_loopg [1, 7, 8] (l.length - i) (fun nn s1 s7 s8 wz => ∃ (j : Nat) (dz : List UInt8), i ≤ j ∧ j ≤ l.length ∧ nn = l.length - j ∧ s1 = .int .i64 j ∧ s7 = .int .i64 (val dz : Nat) ∧ s8 = .int .i64 dz.length ∧ Hid (((∀ x ∈ dz, isD x) ∧ dz.length ≤ 5 ∧ l.drop i = dz ++ l.drop j) ∧ Tch [] w wz))
        case atStart => exact ⟨i, [], Nat.le_refl _, HI.out.2, rfl, rfl, rfl, rfl, ⟨by simp, by simp, rfl⟩, HRT.out⟩
        case round =>
          obtain ⟨j, dz, hj1, hj2, rfl, rfl, rfl, rfl, HZZ⟩ := hrel
          rename World => wz
          have HJ := Lib.hid (⟨hj1, hj2⟩ : _ ∧ _)
          have HZ := Lib.hid HZZ.out.1
          have HZT := Lib.hid HZZ.out.2
          have hv : val dz ≤ 99999 := val_le5 _ HZ.out.1 HZ.out.2.1
          have hv2 : (val dz : Int) ≤ 99999 := by omega
          clear hj1 hj2 HZZ
          have hjx : (j : Int) ≤ 1000000 := by have := HJ.out.2; omega
          have hn0 := byI_nonneg l j
          have hn1 := byI_le l j
          by_cases hall : j < l.length ∧ 48 ≤ byI l j ∧ byI l j ≤ 57 ∧ dz.length < 5
          · obtain ⟨hlt, h48, h57, hl5⟩ := hall
            have hlt2 : (j : Int) < (l.length : Int) := by omega
            have hl52 : (dz.length : Int) < 5 := by omega
            have HSP := Lib.hid (⟨hlt, h48, h57, hl5⟩ : _ ∧ _ ∧ _ ∧ _)
            clear hl5
            go_wp2_with fail
            go_roundg (l.length - (j + 1))
            case rel =>
              obtain ⟨h1, h2, h3, h4⟩ := HSP.out
              unfold byI at h2 h3
              refine ⟨j + 1, dz ++ [l.getD j 0], by have := HJ.out; omega, h1, rfl, by go_num, ?_, by rw [List.length_append]; rfl, ⟨fun x hx => ?_, by rw [List.length_append, List.length_singleton]; omega, ?_⟩, HZT.out⟩
              · rw [val_snoc]
                unfold byI
                congr 1
                omega
              · rcases List.mem_append.1 hx with hx | hx
                · exact HZ.out.1 x hx
                · rw [List.mem_singleton.1 hx]; unfold isD; omega
              · rw [HZ.out.2.2, drop_getD h1, List.append_assoc]; rfl
            case measure => have := HSP.out.1; omega
          · have hor : (l.length ≤ j) ∨ (j < l.length ∧ byI l j < 48) ∨ (j < l.length ∧ 48 ≤ byI l j ∧ 57 < byI l j) ∨ (j < l.length ∧ 48 ≤ byI l j ∧ byI l j ≤ 57 ∧ dz.length = 5) := by
              have := HZ.out.2.1
              omega
            clear hall
            rcases hor with hge | ⟨hlt, hby⟩ | ⟨hlt, hb1, hby⟩ | ⟨hlt, hb1, hb3, hb5⟩
            · have hde : decide (j < l.length) = false := decide_eq_false (by omega)
              have hde2 : decide ((j : Int) < (l.length : Int)) = false := decide_eq_false (by omega)
              have hge2 : (l.length : Int) ≤ (j : Int) := by omega
              go_wp2_with fail
              clear hde hde2 hge hge2 hn0 hn1 hv hv2
              go_loopg [1] (l.length - j) (fun nn s1 wy => ∃ q : Nat, j ≤ q ∧ q ≤ l.length ∧ nn = l.length - q ∧ s1 = .int .i64 q ∧ Hid (l.drop j = sp (q - j) ++ l.drop q ∧ Tch [] w wy))
              case atStart => exact ⟨j, Nat.le_refl _, HJ.out.2, rfl, rfl, by simp [sp], HZT.out⟩
              case round =>
                obtain ⟨q, hq1, hq2, rfl, rfl, HQ⟩ := hrel
                rename World => wy
                have HQJ := Lib.hid (⟨hq1, hq2⟩ : _ ∧ _)
                clear hq1 hq2
                by_cases hsp : q < l.length ∧ l.getD q 0 = 32
                · have hlt2 : (q : Int) < (l.length : Int) := by omega
                  have hlt := hsp.1
                  have hbb : byI l q = 32 := by unfold byI; rw [hsp.2]; rfl
                  have hqx : (q : Int) ≤ 1000000 := by omega
                  have HSP := Lib.hid hsp
                  clear hsp
                  go_wp2_with fail
                  go_roundg (l.length - (q + 1))
                  case rel =>
                    have h1 := HSP.out
                    refine ⟨q + 1, by have := HQJ.out; omega, h1.1, rfl, by go_num, ?_, HQ.out.2⟩
                    rw [HQ.out.1, drop_getD h1.1, h1.2, sp_succ]
                    congr 2
                    have := HQJ.out
                    omega
                  case measure => have := HSP.out.1; omega
                · have HQ1 := Lib.hid HQ.out.1
                  have HQT := Lib.hid HQ.out.2
                  have hle : q ≤ l.length := HQJ.out.2
                  have hqx : (q : Int) ≤ 1000000 := by omega
                  have hor : (l.length ≤ q) ∨ (q < l.length ∧ byI l q ≠ 32) := by
                    rcases Nat.lt_or_ge q l.length with h | h
                    · refine .inr ⟨h, fun e => hsp ⟨h, ?_⟩⟩
                      unfold byI at e
                      exact UInt8.toNat_inj.1 (by rw [show (32 : UInt8).toNat = 32 from rfl]; omega)
                    · exact .inl h
                  clear hsp HQ
                  have hd5 : dz.length ≤ 5 := HZ.out.2.1
                  have hdc : ((0 : Int) < (dz.length : Int) ∧ (dz.length : Int) < 5 ∧ 0 < dz.length ∧ dz.length < 5) ∨ ((dz.length : Int) = 0 ∧ dz.length = 0) ∨ ((dz.length : Int) = 5 ∧ dz.length = 5 ∧ decide ((dz.length : Int) < 5) = false) := by
                    by_cases h0 : dz.length = 0
                    · right; left; exact ⟨by omega, h0⟩
                    · by_cases h5 : dz.length = 5
                      · right; right; exact ⟨by omega, h5, decide_eq_false (by omega)⟩
                      · left; omega
                  rcases hor with hge | ⟨hlt, hby⟩
                  · have hde : decide (q < l.length) = false := decide_eq_false (by omega)
                    have hde2 : decide ((q : Int) < (l.length : Int)) = false := decide_eq_false (by omega)
                    have hge2 : (l.length : Int) ≤ (q : Int) := by omega
                    rcases hdc with ⟨g1, g2, g3, g4⟩ | ⟨g1, g2⟩ | ⟨g1, g2, g3⟩
                    · have HG := Lib.hid (⟨g3, g4⟩ : _ ∧ _)
                      go_wp2_with fail
                      go_ret3
                      exact ⟨val dz, q, true, rfl, HQT.out, HQJ.out.2, val_le5 _ HZ.out.1 HZ.out.2.1, fun _ => ⟨_, dz, _, by rw [HR1.out, HZ.out.2.2, HQ1.out], ⟨by intro e; have := HG.out.1; rw [e] at this; simp at this, by have := HG.out.2; omega, HZ.out.1⟩, rfl⟩⟩
                    · have hdz : dz = [] := List.length_eq_zero_iff.1 g2
                      subst hdz
                      clear g1 g2
                      go_wp2_with fail
                      go_ret3
                      exact ⟨val [], q, false, rfl, HQT.out, HQJ.out.2, val_le5 _ HZ.out.1 HZ.out.2.1, fun h => by simp at h⟩
                    · go_wp2_with fail
                      go_ret3
                      exact ⟨val dz, q, false, rfl, HQT.out, HQJ.out.2, val_le5 _ HZ.out.1 HZ.out.2.1, fun h => by simp at h⟩
                  · have hlt2 : (q : Int) < (l.length : Int) := by omega
                    have hbe : (byI l q == 32) = false := beq_eq_false_iff_ne.2 hby
                    have hbe2 : decide (byI l q = 32) = false := decide_eq_false hby
                    rcases hdc with ⟨g1, g2, g3, g4⟩ | ⟨g1, g2⟩ | ⟨g1, g2, g3⟩
                    · have HG := Lib.hid (⟨g3, g4⟩ : _ ∧ _)
                      go_wp2_with fail
                      go_ret3
                      exact ⟨val dz, q, true, rfl, HQT.out, HQJ.out.2, val_le5 _ HZ.out.1 HZ.out.2.1, fun _ => ⟨_, dz, _, by rw [HR1.out, HZ.out.2.2, HQ1.out], ⟨by intro e; have := HG.out.1; rw [e] at this; simp at this, by have := HG.out.2; omega, HZ.out.1⟩, rfl⟩⟩
                    · have hdz : dz = [] := List.length_eq_zero_iff.1 g2
                      subst hdz
                      clear g1 g2
                      go_wp2_with fail
                      go_ret3
                      exact ⟨val [], q, false, rfl, HQT.out, HQJ.out.2, val_le5 _ HZ.out.1 HZ.out.2.1, fun h => by simp at h⟩
                    · go_wp2_with fail
                      go_ret3
                      exact ⟨val dz, q, false, rfl, HQT.out, HQJ.out.2, val_le5 _ HZ.out.1 HZ.out.2.1, fun h => by simp at h⟩
            · have hlt2 : (j : Int) < (l.length : Int) := by omega
              go_wp2_with fail
              clear hlt hlt2 hby hn0 hn1 hv hv2
              go_loopg [1] (l.length - j) (fun nn s1 wy => ∃ q : Nat, j ≤ q ∧ q ≤ l.length ∧ nn = l.length - q ∧ s1 = .int .i64 q ∧ Hid (l.drop j = sp (q - j) ++ l.drop q ∧ Tch [] w wy))
              case atStart => exact ⟨j, Nat.le_refl _, HJ.out.2, rfl, rfl, by simp [sp], HZT.out⟩
              case round =>
                obtain ⟨q, hq1, hq2, rfl, rfl, HQ⟩ := hrel
                rename World => wy
                have HQJ := Lib.hid (⟨hq1, hq2⟩ : _ ∧ _)
                clear hq1 hq2
                by_cases hsp : q < l.length ∧ l.getD q 0 = 32
                · have hlt2 : (q : Int) < (l.length : Int) := by omega
                  have hlt := hsp.1
                  have hbb : byI l q = 32 := by unfold byI; rw [hsp.2]; rfl
                  have hqx : (q : Int) ≤ 1000000 := by omega
                  have HSP := Lib.hid hsp
                  clear hsp
                  go_wp2_with fail
                  go_roundg (l.length - (q + 1))
                  case rel =>
                    have h1 := HSP.out
                    refine ⟨q + 1, by have := HQJ.out; omega, h1.1, rfl, by go_num, ?_, HQ.out.2⟩
                    rw [HQ.out.1, drop_getD h1.1, h1.2, sp_succ]
                    congr 2
                    have := HQJ.out
                    omega
                  case measure => have := HSP.out.1; omega
                · have HQ1 := Lib.hid HQ.out.1
                  have HQT := Lib.hid HQ.out.2
                  have hle : q ≤ l.length := HQJ.out.2
                  have hqx : (q : Int) ≤ 1000000 := by omega
                  have hor : (l.length ≤ q) ∨ (q < l.length ∧ byI l q ≠ 32) := by
                    rcases Nat.lt_or_ge q l.length with h | h
                    · refine .inr ⟨h, fun e => hsp ⟨h, ?_⟩⟩
                      unfold byI at e
                      exact UInt8.toNat_inj.1 (by rw [show (32 : UInt8).toNat = 32 from rfl]; omega)
                    · exact .inl h
                  clear hsp HQ
                  have hd5 : dz.length ≤ 5 := HZ.out.2.1
                  have hdc : ((0 : Int) < (dz.length : Int) ∧ (dz.length : Int) < 5 ∧ 0 < dz.length ∧ dz.length < 5) ∨ ((dz.length : Int) = 0 ∧ dz.length = 0) ∨ ((dz.length : Int) = 5 ∧ dz.length = 5 ∧ decide ((dz.length : Int) < 5) = false) := by
                    by_cases h0 : dz.length = 0
                    · right; left; exact ⟨by omega, h0⟩
                    · by_cases h5 : dz.length = 5
                      · right; right; exact ⟨by omega, h5, decide_eq_false (by omega)⟩
                      · left; omega
                  rcases hor with hge | ⟨hlt, hby⟩
                  · have hde : decide (q < l.length) = false := decide_eq_false (by omega)
                    have hde2 : decide ((q : Int) < (l.length : Int)) = false := decide_eq_false (by omega)
                    have hge2 : (l.length : Int) ≤ (q : Int) := by omega
                    rcases hdc with ⟨g1, g2, g3, g4⟩ | ⟨g1, g2⟩ | ⟨g1, g2, g3⟩
                    · have HG := Lib.hid (⟨g3, g4⟩ : _ ∧ _)
                      go_wp2_with fail
                      go_ret3
                      exact ⟨val dz, q, true, rfl, HQT.out, HQJ.out.2, val_le5 _ HZ.out.1 HZ.out.2.1, fun _ => ⟨_, dz, _, by rw [HR1.out, HZ.out.2.2, HQ1.out], ⟨by intro e; have := HG.out.1; rw [e] at this; simp at this, by have := HG.out.2; omega, HZ.out.1⟩, rfl⟩⟩
                    · have hdz : dz = [] := List.length_eq_zero_iff.1 g2
                      subst hdz
                      clear g1 g2
                      go_wp2_with fail
                      go_ret3
                      exact ⟨val [], q, false, rfl, HQT.out, HQJ.out.2, val_le5 _ HZ.out.1 HZ.out.2.1, fun h => by simp at h⟩
                    · go_wp2_with fail
                      go_ret3
                      exact ⟨val dz, q, false, rfl, HQT.out, HQJ.out.2, val_le5 _ HZ.out.1 HZ.out.2.1, fun h => by simp at h⟩
                  · have hlt2 : (q : Int) < (l.length : Int) := by omega
                    have hbe : (byI l q == 32) = false := beq_eq_false_iff_ne.2 hby
                    have hbe2 : decide (byI l q = 32) = false := decide_eq_false hby
                    rcases hdc with ⟨g1, g2, g3, g4⟩ | ⟨g1, g2⟩ | ⟨g1, g2, g3⟩
                    · have HG := Lib.hid (⟨g3, g4⟩ : _ ∧ _)
                      go_wp2_with fail
                      go_ret3
                      exact ⟨val dz, q, true, rfl, HQT.out, HQJ.out.2, val_le5 _ HZ.out.1 HZ.out.2.1, fun _ => ⟨_, dz, _, by rw [HR1.out, HZ.out.2.2, HQ1.out], ⟨by intro e; have := HG.out.1; rw [e] at this; simp at this, by have := HG.out.2; omega, HZ.out.1⟩, rfl⟩⟩
                    · have hdz : dz = [] := List.length_eq_zero_iff.1 g2
                      subst hdz
                      clear g1 g2
                      go_wp2_with fail
                      go_ret3
                      exact ⟨val [], q, false, rfl, HQT.out, HQJ.out.2, val_le5 _ HZ.out.1 HZ.out.2.1, fun h => by simp at h⟩
                    · go_wp2_with fail
                      go_ret3
                      exact ⟨val dz, q, false, rfl, HQT.out, HQJ.out.2, val_le5 _ HZ.out.1 HZ.out.2.1, fun h => by simp at h⟩
            · have hlt2 : (j : Int) < (l.length : Int) := by omega
              go_wp2_with fail
              clear hlt hlt2 hby hb1 hn0 hn1 hv hv2
              go_loopg [1] (l.length - j) (fun nn s1 wy => ∃ q : Nat, j ≤ q ∧ q ≤ l.length ∧ nn = l.length - q ∧ s1 = .int .i64 q ∧ Hid (l.drop j = sp (q - j) ++ l.drop q ∧ Tch [] w wy))
              case atStart => exact ⟨j, Nat.le_refl _, HJ.out.2, rfl, rfl, by simp [sp], HZT.out⟩
              case round =>
                obtain ⟨q, hq1, hq2, rfl, rfl, HQ⟩ := hrel
                rename World => wy
                have HQJ := Lib.hid (⟨hq1, hq2⟩ : _ ∧ _)
                clear hq1 hq2
                by_cases hsp : q < l.length ∧ l.getD q 0 = 32
                · have hlt2 : (q : Int) < (l.length : Int) := by omega
                  have hlt := hsp.1
                  have hbb : byI l q = 32 := by unfold byI; rw [hsp.2]; rfl
                  have hqx : (q : Int) ≤ 1000000 := by omega
                  have HSP := Lib.hid hsp
                  clear hsp
                  go_wp2_with fail
                  go_roundg (l.length - (q + 1))
                  case rel =>
                    have h1 := HSP.out
                    refine ⟨q + 1, by have := HQJ.out; omega, h1.1, rfl, by go_num, ?_, HQ.out.2⟩
                    rw [HQ.out.1, drop_getD h1.1, h1.2, sp_succ]
                    congr 2
                    have := HQJ.out
                    omega
                  case measure => have := HSP.out.1; omega
                · have HQ1 := Lib.hid HQ.out.1
                  have HQT := Lib.hid HQ.out.2
                  have hle : q ≤ l.length := HQJ.out.2
                  have hqx : (q : Int) ≤ 1000000 := by omega
                  have hor : (l.length ≤ q) ∨ (q < l.length ∧ byI l q ≠ 32) := by
                    rcases Nat.lt_or_ge q l.length with h | h
                    · refine .inr ⟨h, fun e => hsp ⟨h, ?_⟩⟩
                      unfold byI at e
                      exact UInt8.toNat_inj.1 (by rw [show (32 : UInt8).toNat = 32 from rfl]; omega)
                    · exact .inl h
                  clear hsp HQ
                  have hd5 : dz.length ≤ 5 := HZ.out.2.1
                  have hdc : ((0 : Int) < (dz.length : Int) ∧ (dz.length : Int) < 5 ∧ 0 < dz.length ∧ dz.length < 5) ∨ ((dz.length : Int) = 0 ∧ dz.length = 0) ∨ ((dz.length : Int) = 5 ∧ dz.length = 5 ∧ decide ((dz.length : Int) < 5) = false) := by
                    by_cases h0 : dz.length = 0
                    · right; left; exact ⟨by omega, h0⟩
                    · by_cases h5 : dz.length = 5
                      · right; right; exact ⟨by omega, h5, decide_eq_false (by omega)⟩
                      · left; omega
                  rcases hor with hge | ⟨hlt, hby⟩
                  · have hde : decide (q < l.length) = false := decide_eq_false (by omega)
                    have hde2 : decide ((q : Int) < (l.length : Int)) = false := decide_eq_false (by omega)
                    have hge2 : (l.length : Int) ≤ (q : Int) := by omega
                    rcases hdc with ⟨g1, g2, g3, g4⟩ | ⟨g1, g2⟩ | ⟨g1, g2, g3⟩
                    · have HG := Lib.hid (⟨g3, g4⟩ : _ ∧ _)
                      go_wp2_with fail
                      go_ret3
                      exact ⟨val dz, q, true, rfl, HQT.out, HQJ.out.2, val_le5 _ HZ.out.1 HZ.out.2.1, fun _ => ⟨_, dz, _, by rw [HR1.out, HZ.out.2.2, HQ1.out], ⟨by intro e; have := HG.out.1; rw [e] at this; simp at this, by have := HG.out.2; omega, HZ.out.1⟩, rfl⟩⟩
                    · have hdz : dz = [] := List.length_eq_zero_iff.1 g2
                      subst hdz
                      clear g1 g2
                      go_wp2_with fail
                      go_ret3
                      exact ⟨val [], q, false, rfl, HQT.out, HQJ.out.2, val_le5 _ HZ.out.1 HZ.out.2.1, fun h => by simp at h⟩
                    · go_wp2_with fail
                      go_ret3
                      exact ⟨val dz, q, false, rfl, HQT.out, HQJ.out.2, val_le5 _ HZ.out.1 HZ.out.2.1, fun h => by simp at h⟩
                  · have hlt2 : (q : Int) < (l.length : Int) := by omega
                    have hbe : (byI l q == 32) = false := beq_eq_false_iff_ne.2 hby
                    have hbe2 : decide (byI l q = 32) = false := decide_eq_false hby
                    rcases hdc with ⟨g1, g2, g3, g4⟩ | ⟨g1, g2⟩ | ⟨g1, g2, g3⟩
                    · have HG := Lib.hid (⟨g3, g4⟩ : _ ∧ _)
                      go_wp2_with fail
                      go_ret3
                      exact ⟨val dz, q, true, rfl, HQT.out, HQJ.out.2, val_le5 _ HZ.out.1 HZ.out.2.1, fun _ => ⟨_, dz, _, by rw [HR1.out, HZ.out.2.2, HQ1.out], ⟨by intro e; have := HG.out.1; rw [e] at this; simp at this, by have := HG.out.2; omega, HZ.out.1⟩, rfl⟩⟩
                    · have hdz : dz = [] := List.length_eq_zero_iff.1 g2
                      subst hdz
                      clear g1 g2
                      go_wp2_with fail
                      go_ret3
                      exact ⟨val [], q, false, rfl, HQT.out, HQJ.out.2, val_le5 _ HZ.out.1 HZ.out.2.1, fun h => by simp at h⟩
                    · go_wp2_with fail
                      go_ret3
                      exact ⟨val dz, q, false, rfl, HQT.out, HQJ.out.2, val_le5 _ HZ.out.1 HZ.out.2.1, fun h => by simp at h⟩
            · have hlt2 : (j : Int) < (l.length : Int) := by omega
              have hb6 : (dz.length : Int) = 5 := by omega
              have hb7 : decide ((dz.length : Int) < 5) = false := decide_eq_false (by omega)
              go_wp2_with fail
              clear hlt hlt2 hb1 hb3 hb5 hb6 hb7 hn0 hn1 hv hv2
              go_loopg [1] (l.length - j) (fun nn s1 wy => ∃ q : Nat, j ≤ q ∧ q ≤ l.length ∧ nn = l.length - q ∧ s1 = .int .i64 q ∧ Hid (l.drop j = sp (q - j) ++ l.drop q ∧ Tch [] w wy))
              case atStart => exact ⟨j, Nat.le_refl _, HJ.out.2, rfl, rfl, by simp [sp], HZT.out⟩
              case round =>
                obtain ⟨q, hq1, hq2, rfl, rfl, HQ⟩ := hrel
                rename World => wy
                have HQJ := Lib.hid (⟨hq1, hq2⟩ : _ ∧ _)
                clear hq1 hq2
                by_cases hsp : q < l.length ∧ l.getD q 0 = 32
                · have hlt2 : (q : Int) < (l.length : Int) := by omega
                  have hlt := hsp.1
                  have hbb : byI l q = 32 := by unfold byI; rw [hsp.2]; rfl
                  have hqx : (q : Int) ≤ 1000000 := by omega
                  have HSP := Lib.hid hsp
                  clear hsp
                  go_wp2_with fail
                  go_roundg (l.length - (q + 1))
                  case rel =>
                    have h1 := HSP.out
                    refine ⟨q + 1, by have := HQJ.out; omega, h1.1, rfl, by go_num, ?_, HQ.out.2⟩
                    rw [HQ.out.1, drop_getD h1.1, h1.2, sp_succ]
                    congr 2
                    have := HQJ.out
                    omega
                  case measure => have := HSP.out.1; omega
                · have HQ1 := Lib.hid HQ.out.1
                  have HQT := Lib.hid HQ.out.2
                  have hle : q ≤ l.length := HQJ.out.2
                  have hqx : (q : Int) ≤ 1000000 := by omega
                  have hor : (l.length ≤ q) ∨ (q < l.length ∧ byI l q ≠ 32) := by
                    rcases Nat.lt_or_ge q l.length with h | h
                    · refine .inr ⟨h, fun e => hsp ⟨h, ?_⟩⟩
                      unfold byI at e
                      exact UInt8.toNat_inj.1 (by rw [show (32 : UInt8).toNat = 32 from rfl]; omega)
                    · exact .inl h
                  clear hsp HQ
                  have hd5 : dz.length ≤ 5 := HZ.out.2.1
                  have hdc : ((0 : Int) < (dz.length : Int) ∧ (dz.length : Int) < 5 ∧ 0 < dz.length ∧ dz.length < 5) ∨ ((dz.length : Int) = 0 ∧ dz.length = 0) ∨ ((dz.length : Int) = 5 ∧ dz.length = 5 ∧ decide ((dz.length : Int) < 5) = false) := by
                    by_cases h0 : dz.length = 0
                    · right; left; exact ⟨by omega, h0⟩
                    · by_cases h5 : dz.length = 5
                      · right; right; exact ⟨by omega, h5, decide_eq_false (by omega)⟩
                      · left; omega
                  rcases hor with hge | ⟨hlt, hby⟩
                  · have hde : decide (q < l.length) = false := decide_eq_false (by omega)
                    have hde2 : decide ((q : Int) < (l.length : Int)) = false := decide_eq_false (by omega)
                    have hge2 : (l.length : Int) ≤ (q : Int) := by omega
                    rcases hdc with ⟨g1, g2, g3, g4⟩ | ⟨g1, g2⟩ | ⟨g1, g2, g3⟩
                    · have HG := Lib.hid (⟨g3, g4⟩ : _ ∧ _)
                      go_wp2_with fail
                      go_ret3
                      exact ⟨val dz, q, true, rfl, HQT.out, HQJ.out.2, val_le5 _ HZ.out.1 HZ.out.2.1, fun _ => ⟨_, dz, _, by rw [HR1.out, HZ.out.2.2, HQ1.out], ⟨by intro e; have := HG.out.1; rw [e] at this; simp at this, by have := HG.out.2; omega, HZ.out.1⟩, rfl⟩⟩
                    · have hdz : dz = [] := List.length_eq_zero_iff.1 g2
                      subst hdz
                      clear g1 g2
                      go_wp2_with fail
                      go_ret3
                      exact ⟨val [], q, false, rfl, HQT.out, HQJ.out.2, val_le5 _ HZ.out.1 HZ.out.2.1, fun h => by simp at h⟩
                    · go_wp2_with fail
                      go_ret3
                      exact ⟨val dz, q, false, rfl, HQT.out, HQJ.out.2, val_le5 _ HZ.out.1 HZ.out.2.1, fun h => by simp at h⟩
                  · have hlt2 : (q : Int) < (l.length : Int) := by omega
                    have hbe : (byI l q == 32) = false := beq_eq_false_iff_ne.2 hby
                    have hbe2 : decide (byI l q = 32) = false := decide_eq_false hby
                    rcases hdc with ⟨g1, g2, g3, g4⟩ | ⟨g1, g2⟩ | ⟨g1, g2, g3⟩
                    · have HG := Lib.hid (⟨g3, g4⟩ : _ ∧ _)
                      go_wp2_with fail
                      go_ret3
                      exact ⟨val dz, q, true, rfl, HQT.out, HQJ.out.2, val_le5 _ HZ.out.1 HZ.out.2.1, fun _ => ⟨_, dz, _, by rw [HR1.out, HZ.out.2.2, HQ1.out], ⟨by intro e; have := HG.out.1; rw [e] at this; simp at this, by have := HG.out.2; omega, HZ.out.1⟩, rfl⟩⟩
                    · have hdz : dz = [] := List.length_eq_zero_iff.1 g2
                      subst hdz
                      clear g1 g2
                      go_wp2_with fail
                      go_ret3
                      exact ⟨val [], q, false, rfl, HQT.out, HQJ.out.2, val_le5 _ HZ.out.1 HZ.out.2.1, fun h => by simp at h⟩
                    · go_wp2_with fail
                      go_ret3
                      exact ⟨val dz, q, false, rfl, HQT.out, HQJ.out.2, val_le5 _ HZ.out.1 HZ.out.2.1, fun h => by simp at h⟩

end Go.Proofs.YtcolffccbmpndaaGreatDoor
