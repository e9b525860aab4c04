/- spec.place: what it tells, as a function. -/
import Derived.Test.YtcolffccbmpndaaGreatDoorTrLt
namespace Go.Proofs.YtcolffccbmpndaaGreatDoor
open Go.RowKit Go.Deep
set_option maxRecDepth 100000

/-- No blank in front. -/
def NoSp (r : List UInt8) : Prop := ∀ x t, r = x :: t → x ≠ 32
def NoDg (r : List UInt8) : Prop := ∀ x t, r = x :: t → ¬ isD x
def isDb (x : UInt8) : Bool := decide (48 ≤ x.toNat) && decide (x.toNat ≤ 57)
theorem isDb_iff (x : UInt8) : isDb x = true ↔ isD x := by unfold isDb isD; simp
theorem nosp_of {l : List UInt8} {i : Nat} (h : l.length ≤ i ∨ (i < l.length ∧ byI l i ≠ 32)) : NoSp (l.drop i) := by
  intro x t e
  rcases h with h | ⟨h, h2⟩
  · rw [List.drop_eq_nil_of_le h] at e; cases e
  · rw [drop_getD h] at e
    injection e with e1 e2
    intro e3
    apply h2
    unfold byI
    rw [e1, e3]
    rfl
theorem nodg_of {l dz : List UInt8} {j : Nat} (h : l.length ≤ j ∨ (j < l.length ∧ byI l j < 48) ∨ (j < l.length ∧ 48 ≤ byI l j ∧ 57 < byI l j) ∨ (j < l.length ∧ 48 ≤ byI l j ∧ byI l j ≤ 57 ∧ dz.length = 5)) : NoDg (l.drop j) ∨ dz.length = 5 := by
  have key : (j < l.length → ¬ isD (l.getD j 0)) → NoDg (l.drop j) := fun hk x t e => by
    rcases Nat.lt_or_ge j l.length with h | h
    · rw [drop_getD h] at e
      injection e with e1 e2
      rw [← e1]; exact hk h
    · rw [List.drop_eq_nil_of_le h] at e; cases e
  rcases h with h | ⟨h, h2⟩ | ⟨h, h2, h3⟩ | ⟨h, h2, h3, h4⟩
  · exact .inl (key (fun h5 => absurd h5 (by omega)))
  · exact .inl (key (fun _ h5 => by unfold byI at h2; have := h5.1; omega))
  · exact .inl (key (fun _ h5 => by unfold byI at h3; have := h5.2; omega))
  · exact .inr h4
/-- A number with blanks around it: the number, what is left, whether it is one of one to four digits. -/
def placeF (r : List UInt8) : Nat × List UInt8 × Bool :=
  let r1 := r.dropWhile (· == 32)
  let ds := (r1.take 5).takeWhile isDb
  (val ds, (r1.drop ds.length).dropWhile (· == 32), decide (0 < ds.length ∧ ds.length < 5))
theorem drop_sp : ∀ (a : Nat) (r : List UInt8), NoSp r → (sp a ++ r).dropWhile (· == 32) = r
  | 0, r, h => by
    cases r with
    | nil => rfl
    | cons x t => simp [sp, h x t rfl]
  | a + 1, r, h => by
    have := drop_sp a r h
    unfold sp at this ⊢
    rw [List.replicate_succ, List.cons_append, List.dropWhile_cons]
    simpa using this
theorem take_ds (ds r : List UInt8) (hd : ∀ x ∈ ds, isD x) (hl : ds.length ≤ 5) (hn : NoDg r ∨ ds.length = 5) : ((ds ++ r).take 5).takeWhile isDb = ds := by
  rw [List.take_append, List.take_of_length_le hl, List.takeWhile_append_of_pos (fun x hx => (isDb_iff x).2 (hd x hx))]
  have e : (r.take (5 - ds.length)).takeWhile isDb = [] := by
    rcases hn with hn | hn
    · cases r with
      | nil => simp
      | cons x t =>
        cases hk : 5 - ds.length with
        | zero => rfl
        | succ k =>
          rw [List.take_succ_cons, List.takeWhile_cons]
          have : isDb x = false := by
            cases hb : isDb x with
            | false => rfl
            | true => exact absurd ((isDb_iff x).1 hb) (hn x t rfl)
          rw [this]; rfl
    · rw [hn]; rfl
  rw [e, List.append_nil]
theorem placeF_of {r r1 r2 r3 ds : List UInt8} {a b : Nat} {ok : Bool} (h1 : r = sp a ++ r1) (n1 : NoSp r1) (h2 : r1 = ds ++ r2) (hd : ∀ x ∈ ds, isD x) (hl : ds.length ≤ 5) (hn : NoDg r2 ∨ ds.length = 5) (h3 : r2 = sp b ++ r3) (n3 : NoSp r3) (hok : decide (0 < ds.length ∧ ds.length < 5) = ok) : placeF r = (val ds, r3, ok) := by
  unfold placeF
  rw [h1, drop_sp a r1 n1]
  simp only []
  rw [h2, take_ds ds r2 hd hl hn, List.drop_left, h3, drop_sp b r3 n3, hok]
theorem sp_of : ∀ r : List UInt8, ∃ a, r = sp a ++ r.dropWhile (· == 32)
  | [] => ⟨0, rfl⟩
  | x :: t => by
    by_cases hx : x = 32
    · obtain ⟨a, ha⟩ := sp_of t
      refine ⟨a + 1, ?_⟩
      subst hx
      rw [List.dropWhile_cons]
      simp only [beq_self_eq_true, if_true]
      conv => lhs; rw [ha]
      unfold sp
      rw [List.replicate_succ, List.cons_append]
    · refine ⟨0, ?_⟩
      rw [List.dropWhile_cons]
      have : (x == 32) = false := beq_eq_false_iff_ne.2 hx
      rw [this]
      rfl
theorem placeF_ok {r r3 : List UInt8} {n : Nat} (h : placeF r = (n, r3, true)) : ∃ a ds b, r = sp a ++ (ds ++ (sp b ++ r3)) ∧ Ds ds ∧ n = val ds := by
  unfold placeF at h
  simp only [Prod.mk.injEq, decide_eq_true_eq] at h
  obtain ⟨a, ha⟩ := sp_of r
  generalize r.dropWhile (· == 32) = r1 at *
  have hp : (r1.take 5).takeWhile isDb <+: r1 := (List.takeWhile_prefix _).trans (List.take_prefix _ _)
  have hall : ∀ x ∈ (r1.take 5).takeWhile isDb, isDb x = true := fun x hx => List.all_eq_true.1 List.all_takeWhile x hx
  generalize (r1.take 5).takeWhile isDb = ds at *
  obtain ⟨t, ht⟩ := hp
  obtain ⟨h1, h2, h3⟩ := h
  rw [← ht, List.drop_left] at h2
  obtain ⟨b, hb⟩ := sp_of t
  refine ⟨a, ds, b, ?_, ⟨by intro e; rw [e] at h3; simp at h3, by omega, fun x hx => (isDb_iff x).1 (hall x hx)⟩, h1.symm⟩
  rw [← h2, ← hb, ht]
  exact ha

/-- What place tells. -/
def PlaceFn (l : List UInt8) (k : Nat) (w : World) (e : Ending) (w' : World) : Prop :=
  ∃ (n q : Nat) (ok : Bool), e = .returned (.tuple #[.int .i64 n, .int .i64 q, .bool ok]) ∧ Tch [] w w' ∧ q ≤ l.length ∧ n ≤ 99999 ∧ placeF (l.drop k) = (n, l.drop q, ok)

set_option maxHeartbeats 4000000 in
theorem place_fun (l : List UInt8) (k : Nat) (w : World) (hl : l.length ≤ 1000000) (hk : k ≤ l.length) :
    Calls Tryz.prog 34 #[.string (bs l), .int .i64 k] w (PlaceFn l k w) := by
  have hs := bs_size l
  have hb := byI_get l
  have hl2 : (l.length : Int) ≤ 1000000 := by omega
  go_enter Tryz.func34, Tryz.ntmps34
  go_wp2_with fail
  go_loopg [1] (l.length - k) (fun nn s1 wr => ∃ i : Nat, k ≤ i ∧ i ≤ l.length ∧ nn = l.length - i ∧ s1 = .int .i64 i ∧ Hid (l.drop k = sp (i - k) ++ l.drop i ∧ Tch [] w wr))
  case atStart => exact ⟨k, Nat.le_refl _, hk, rfl, rfl, by simp [sp], Tch.refl _ _⟩
  case round =>
    obtain ⟨i, hi1, hi2, rfl, rfl, HR⟩ := hrel
    have HI := Lib.hid (⟨hi1, hi2⟩ : _ ∧ _)
    clear hi1 hi2
    by_cases hsp : i < l.length ∧ l.getD i 0 = 32
    · have hlt2 : (i : Int) < (l.length : Int) := by omega
      have hlt := hsp.1
      have hbb : byI l i = 32 := by unfold byI; rw [hsp.2]; rfl
      have hix : (i : Int) ≤ 1000000 := by omega
      have HSP := Lib.hid hsp
      clear hsp
      go_wp2_with fail
      go_roundg (l.length - (i + 1))
      case rel =>
        have h1 := HSP.out
        refine ⟨i + 1, by have := HI.out; omega, h1.1, rfl, by go_num, ?_, HR.out.2⟩
        rw [HR.out.1, drop_getD h1.1, h1.2, sp_succ]
        congr 2
        have := HI.out
        omega
      case measure => have := HSP.out.1; omega
    · have HR1 := Lib.hid HR.out.1
      have HRT := Lib.hid HR.out.2
      have hle : i ≤ l.length := HI.out.2
      have hix : (i : Int) ≤ 1000000 := by omega
      have hor : (l.length ≤ i) ∨ (i < l.length ∧ byI l i ≠ 32) := by
        rcases Nat.lt_or_ge i l.length with h | h
        · refine .inr ⟨h, fun e => hsp ⟨h, ?_⟩⟩
          unfold byI at e
          exact UInt8.toNat_inj.1 (by rw [show (32 : UInt8).toNat = 32 from rfl]; omega)
        · exact .inl h
      have HN1 := Lib.hid (nosp_of hor)
      clear hsp HR
      rcases hor with hge | ⟨hlt, hby⟩
      · have hde : decide (i < l.length) = false := decide_eq_false (by omega)
        have hde2 : decide ((i : Int) < (l.length : Int)) = false := decide_eq_false (by omega)
        have hge2 : (l.length : Int) ≤ (i : Int) := by omega
        go_wp2_with fail
        clear hde hde2 hge hge2
        go_loopg [1, 7, 8] (l.length - i) (fun nn s1 s7 s8 wz => ∃ (j : Nat) (dz : List UInt8), i ≤ j ∧ j ≤ l.length ∧ nn = l.length - j ∧ s1 = .int .i64 j ∧ s7 = .int .i64 (val dz : Nat) ∧ s8 = .int .i64 dz.length ∧ Hid (((∀ x ∈ dz, isD x) ∧ dz.length ≤ 5 ∧ l.drop i = dz ++ l.drop j) ∧ Tch [] w wz))
        case atStart => exact ⟨i, [], Nat.le_refl _, HI.out.2, rfl, rfl, rfl, rfl, ⟨by simp, by simp, rfl⟩, HRT.out⟩
        case round =>
          obtain ⟨j, dz, hj1, hj2, rfl, rfl, rfl, rfl, HZZ⟩ := hrel
          rename World => wz
          have HJ := Lib.hid (⟨hj1, hj2⟩ : _ ∧ _)
          have HZ := Lib.hid HZZ.out.1
          have HZT := Lib.hid HZZ.out.2
          have hv : val dz ≤ 99999 := val_le5 _ HZ.out.1 HZ.out.2.1
          have hv2 : (val dz : Int) ≤ 99999 := by omega
          clear hj1 hj2 HZZ
          have hjx : (j : Int) ≤ 1000000 := by have := HJ.out.2; omega
          have hn0 := byI_nonneg l j
          have hn1 := byI_le l j
          by_cases hall : j < l.length ∧ 48 ≤ byI l j ∧ byI l j ≤ 57 ∧ dz.length < 5
          · obtain ⟨hlt, h48, h57, hl5⟩ := hall
            have hlt2 : (j : Int) < (l.length : Int) := by omega
            have hl52 : (dz.length : Int) < 5 := by omega
            have HSP := Lib.hid (⟨hlt, h48, h57, hl5⟩ : _ ∧ _ ∧ _ ∧ _)
            clear hl5
            go_wp2_with fail
            go_roundg (l.length - (j + 1))
            case rel =>
              obtain ⟨h1, h2, h3, h4⟩ := HSP.out
              unfold byI at h2 h3
              refine ⟨j + 1, dz ++ [l.getD j 0], by have := HJ.out; omega, h1, rfl, by go_num, ?_, by rw [List.length_append]; rfl, ⟨fun x hx => ?_, by rw [List.length_append, List.length_singleton]; omega, ?_⟩, HZT.out⟩
              · rw [val_snoc]
                unfold byI
                congr 1
                omega
              · rcases List.mem_append.1 hx with hx | hx
                · exact HZ.out.1 x hx
                · rw [List.mem_singleton.1 hx]; unfold isD; omega
              · rw [HZ.out.2.2, drop_getD h1, List.append_assoc]; rfl
            case measure => have := HSP.out.1; omega
          · have hor : (l.length ≤ j) ∨ (j < l.length ∧ byI l j < 48) ∨ (j < l.length ∧ 48 ≤ byI l j ∧ 57 < byI l j) ∨ (j < l.length ∧ 48 ≤ byI l j ∧ byI l j ≤ 57 ∧ dz.length = 5) := by
              have := HZ.out.2.1
              omega
            have HND := Lib.hid (nodg_of hor)
            clear hall
            rcases hor with hge | ⟨hlt, hby⟩ | ⟨hlt, hb1, hby⟩ | ⟨hlt, hb1, hb3, hb5⟩
            · have hde : decide (j < l.length) = false := decide_eq_false (by omega)
              have hde2 : decide ((j : Int) < (l.length : Int)) = false := decide_eq_false (by omega)
              have hge2 : (l.length : Int) ≤ (j : Int) := by omega
              go_wp2_with fail
              clear hde hde2 hge hge2 hn0 hn1 hv hv2
              go_loopg [1] (l.length - j) (fun nn s1 wy => ∃ q : Nat, j ≤ q ∧ q ≤ l.length ∧ nn = l.length - q ∧ s1 = .int .i64 q ∧ Hid (l.drop j = sp (q - j) ++ l.drop q ∧ Tch [] w wy))
              case atStart => exact ⟨j, Nat.le_refl _, HJ.out.2, rfl, rfl, by simp [sp], HZT.out⟩
              case round =>
                obtain ⟨q, hq1, hq2, rfl, rfl, HQ⟩ := hrel
                rename World => wy
                have HQJ := Lib.hid (⟨hq1, hq2⟩ : _ ∧ _)
                clear hq1 hq2
                by_cases hsp : q < l.length ∧ l.getD q 0 = 32
                · have hlt2 : (q : Int) < (l.length : Int) := by omega
                  have hlt := hsp.1
                  have hbb : byI l q = 32 := by unfold byI; rw [hsp.2]; rfl
                  have hqx : (q : Int) ≤ 1000000 := by omega
                  have HSP := Lib.hid hsp
                  clear hsp
                  go_wp2_with fail
                  go_roundg (l.length - (q + 1))
                  case rel =>
                    have h1 := HSP.out
                    refine ⟨q + 1, by have := HQJ.out; omega, h1.1, rfl, by go_num, ?_, HQ.out.2⟩
                    rw [HQ.out.1, drop_getD h1.1, h1.2, sp_succ]
                    congr 2
                    have := HQJ.out
                    omega
                  case measure => have := HSP.out.1; omega
                · have HQ1 := Lib.hid HQ.out.1
                  have HQT := Lib.hid HQ.out.2
                  have hle : q ≤ l.length := HQJ.out.2
                  have hqx : (q : Int) ≤ 1000000 := by omega
                  have hor : (l.length ≤ q) ∨ (q < l.length ∧ byI l q ≠ 32) := by
                    rcases Nat.lt_or_ge q l.length with h | h
                    · refine .inr ⟨h, fun e => hsp ⟨h, ?_⟩⟩
                      unfold byI at e
                      exact UInt8.toNat_inj.1 (by rw [show (32 : UInt8).toNat = 32 from rfl]; omega)
                    · exact .inl h
                  have HN2 := Lib.hid (nosp_of hor)
                  clear hsp HQ
                  have hd5 : dz.length ≤ 5 := HZ.out.2.1
                  have hdc : ((0 : Int) < (dz.length : Int) ∧ (dz.length : Int) < 5 ∧ 0 < dz.length ∧ dz.length < 5) ∨ ((dz.length : Int) = 0 ∧ dz.length = 0) ∨ ((dz.length : Int) = 5 ∧ dz.length = 5 ∧ decide ((dz.length : Int) < 5) = false) := by
                    by_cases h0 : dz.length = 0
                    · right; left; exact ⟨by omega, h0⟩
                    · by_cases h5 : dz.length = 5
                      · right; right; exact ⟨by omega, h5, decide_eq_false (by omega)⟩
                      · left; omega
                  rcases hor with hge | ⟨hlt, hby⟩
                  · have hde : decide (q < l.length) = false := decide_eq_false (by omega)
                    have hde2 : decide ((q : Int) < (l.length : Int)) = false := decide_eq_false (by omega)
                    have hge2 : (l.length : Int) ≤ (q : Int) := by omega
                    rcases hdc with ⟨g1, g2, g3, g4⟩ | ⟨g1, g2⟩ | ⟨g1, g2, g3⟩
                    · have HG := Lib.hid (⟨g3, g4⟩ : _ ∧ _)
                      go_wp2_with fail
                      go_ret3
                      exact ⟨val dz, q, true, rfl, HQT.out, HQJ.out.2, val_le5 _ HZ.out.1 HZ.out.2.1, placeF_of HR1.out HN1.out HZ.out.2.2 HZ.out.1 HZ.out.2.1 HND.out HQ1.out HN2.out (by have := HG.out; simp; omega)⟩
                    · have hdz : dz = [] := List.length_eq_zero_iff.1 g2
                      subst hdz
                      clear g1 g2
                      go_wp2_with fail
                      go_ret3
                      exact ⟨val [], q, false, rfl, HQT.out, HQJ.out.2, val_le5 _ HZ.out.1 HZ.out.2.1, placeF_of HR1.out HN1.out HZ.out.2.2 HZ.out.1 HZ.out.2.1 HND.out HQ1.out HN2.out (by simp)⟩
                    · have HG5 := Lib.hid g2
                      go_wp2_with fail
                      go_ret3
                      exact ⟨val dz, q, false, rfl, HQT.out, HQJ.out.2, val_le5 _ HZ.out.1 HZ.out.2.1, placeF_of HR1.out HN1.out HZ.out.2.2 HZ.out.1 HZ.out.2.1 HND.out HQ1.out HN2.out (by have := HG5.out; simp; omega)⟩
                  · have hlt2 : (q : Int) < (l.length : Int) := by omega
                    have hbe : (byI l q == 32) = false := beq_eq_false_iff_ne.2 hby
                    have hbe2 : decide (byI l q = 32) = false := decide_eq_false hby
                    rcases hdc with ⟨g1, g2, g3, g4⟩ | ⟨g1, g2⟩ | ⟨g1, g2, g3⟩
                    · have HG := Lib.hid (⟨g3, g4⟩ : _ ∧ _)
                      go_wp2_with fail
                      go_ret3
                      exact ⟨val dz, q, true, rfl, HQT.out, HQJ.out.2, val_le5 _ HZ.out.1 HZ.out.2.1, placeF_of HR1.out HN1.out HZ.out.2.2 HZ.out.1 HZ.out.2.1 HND.out HQ1.out HN2.out (by have := HG.out; simp; omega)⟩
                    · have hdz : dz = [] := List.length_eq_zero_iff.1 g2
                      subst hdz
                      clear g1 g2
                      go_wp2_with fail
                      go_ret3
                      exact ⟨val [], q, false, rfl, HQT.out, HQJ.out.2, val_le5 _ HZ.out.1 HZ.out.2.1, placeF_of HR1.out HN1.out HZ.out.2.2 HZ.out.1 HZ.out.2.1 HND.out HQ1.out HN2.out (by simp)⟩
                    · have HG5 := Lib.hid g2
                      go_wp2_with fail
                      go_ret3
                      exact ⟨val dz, q, false, rfl, HQT.out, HQJ.out.2, val_le5 _ HZ.out.1 HZ.out.2.1, placeF_of HR1.out HN1.out HZ.out.2.2 HZ.out.1 HZ.out.2.1 HND.out HQ1.out HN2.out (by have := HG5.out; simp; omega)⟩
            · have hlt2 : (j : Int) < (l.length : Int) := by omega
              go_wp2_with fail
              clear hlt hlt2 hby hn0 hn1 hv hv2
              go_loopg [1] (l.length - j) (fun nn s1 wy => ∃ q : Nat, j ≤ q ∧ q ≤ l.length ∧ nn = l.length - q ∧ s1 = .int .i64 q ∧ Hid (l.drop j = sp (q - j) ++ l.drop q ∧ Tch [] w wy))
              case atStart => exact ⟨j, Nat.le_refl _, HJ.out.2, rfl, rfl, by simp [sp], HZT.out⟩
              case round =>
                obtain ⟨q, hq1, hq2, rfl, rfl, HQ⟩ := hrel
                rename World => wy
                have HQJ := Lib.hid (⟨hq1, hq2⟩ : _ ∧ _)
                clear hq1 hq2
                by_cases hsp : q < l.length ∧ l.getD q 0 = 32
                · have hlt2 : (q : Int) < (l.length : Int) := by omega
                  have hlt := hsp.1
                  have hbb : byI l q = 32 := by unfold byI; rw [hsp.2]; rfl
                  have hqx : (q : Int) ≤ 1000000 := by omega
                  have HSP := Lib.hid hsp
                  clear hsp
                  go_wp2_with fail
                  go_roundg (l.length - (q + 1))
                  case rel =>
                    have h1 := HSP.out
                    refine ⟨q + 1, by have := HQJ.out; omega, h1.1, rfl, by go_num, ?_, HQ.out.2⟩
                    rw [HQ.out.1, drop_getD h1.1, h1.2, sp_succ]
                    congr 2
                    have := HQJ.out
                    omega
                  case measure => have := HSP.out.1; omega
                · have HQ1 := Lib.hid HQ.out.1
                  have HQT := Lib.hid HQ.out.2
                  have hle : q ≤ l.length := HQJ.out.2
                  have hqx : (q : Int) ≤ 1000000 := by omega
                  have hor : (l.length ≤ q) ∨ (q < l.length ∧ byI l q ≠ 32) := by
                    rcases Nat.lt_or_ge q l.length with h | h
                    · refine .inr ⟨h, fun e => hsp ⟨h, ?_⟩⟩
                      unfold byI at e
                      exact UInt8.toNat_inj.1 (by rw [show (32 : UInt8).toNat = 32 from rfl]; omega)
                    · exact .inl h
                  have HN2 := Lib.hid (nosp_of hor)
                  clear hsp HQ
                  have hd5 : dz.length ≤ 5 := HZ.out.2.1
                  have hdc : ((0 : Int) < (dz.length : Int) ∧ (dz.length : Int) < 5 ∧ 0 < dz.length ∧ dz.length < 5) ∨ ((dz.length : Int) = 0 ∧ dz.length = 0) ∨ ((dz.length : Int) = 5 ∧ dz.length = 5 ∧ decide ((dz.length : Int) < 5) = false) := by
                    by_cases h0 : dz.length = 0
                    · right; left; exact ⟨by omega, h0⟩
                    · by_cases h5 : dz.length = 5
                      · right; right; exact ⟨by omega, h5, decide_eq_false (by omega)⟩
                      · left; omega
                  rcases hor with hge | ⟨hlt, hby⟩
                  · have hde : decide (q < l.length) = false := decide_eq_false (by omega)
                    have hde2 : decide ((q : Int) < (l.length : Int)) = false := decide_eq_false (by omega)
                    have hge2 : (l.length : Int) ≤ (q : Int) := by omega
                    rcases hdc with ⟨g1, g2, g3, g4⟩ | ⟨g1, g2⟩ | ⟨g1, g2, g3⟩
                    · have HG := Lib.hid (⟨g3, g4⟩ : _ ∧ _)
                      go_wp2_with fail
                      go_ret3
                      exact ⟨val dz, q, true, rfl, HQT.out, HQJ.out.2, val_le5 _ HZ.out.1 HZ.out.2.1, placeF_of HR1.out HN1.out HZ.out.2.2 HZ.out.1 HZ.out.2.1 HND.out HQ1.out HN2.out (by have := HG.out; simp; omega)⟩
                    · have hdz : dz = [] := List.length_eq_zero_iff.1 g2
                      subst hdz
                      clear g1 g2
                      go_wp2_with fail
                      go_ret3
                      exact ⟨val [], q, false, rfl, HQT.out, HQJ.out.2, val_le5 _ HZ.out.1 HZ.out.2.1, placeF_of HR1.out HN1.out HZ.out.2.2 HZ.out.1 HZ.out.2.1 HND.out HQ1.out HN2.out (by simp)⟩
                    · have HG5 := Lib.hid g2
                      go_wp2_with fail
                      go_ret3
                      exact ⟨val dz, q, false, rfl, HQT.out, HQJ.out.2, val_le5 _ HZ.out.1 HZ.out.2.1, placeF_of HR1.out HN1.out HZ.out.2.2 HZ.out.1 HZ.out.2.1 HND.out HQ1.out HN2.out (by have := HG5.out; simp; omega)⟩
                  · have hlt2 : (q : Int) < (l.length : Int) := by omega
                    have hbe : (byI l q == 32) = false := beq_eq_false_iff_ne.2 hby
                    have hbe2 : decide (byI l q = 32) = false := decide_eq_false hby
                    rcases hdc with ⟨g1, g2, g3, g4⟩ | ⟨g1, g2⟩ | ⟨g1, g2, g3⟩
                    · have HG := Lib.hid (⟨g3, g4⟩ : _ ∧ _)
                      go_wp2_with fail
                      go_ret3
                      exact ⟨val dz, q, true, rfl, HQT.out, HQJ.out.2, val_le5 _ HZ.out.1 HZ.out.2.1, placeF_of HR1.out HN1.out HZ.out.2.2 HZ.out.1 HZ.out.2.1 HND.out HQ1.out HN2.out (by have := HG.out; simp; omega)⟩
                    · have hdz : dz = [] := List.length_eq_zero_iff.1 g2
                      subst hdz
                      clear g1 g2
                      go_wp2_with fail
                      go_ret3
                      exact ⟨val [], q, false, rfl, HQT.out, HQJ.out.2, val_le5 _ HZ.out.1 HZ.out.2.1, placeF_of HR1.out HN1.out HZ.out.2.2 HZ.out.1 HZ.out.2.1 HND.out HQ1.out HN2.out (by simp)⟩
                    · have HG5 := Lib.hid g2
                      go_wp2_with fail
                      go_ret3
                      exact ⟨val dz, q, false, rfl, HQT.out, HQJ.out.2, val_le5 _ HZ.out.1 HZ.out.2.1, placeF_of HR1.out HN1.out HZ.out.2.2 HZ.out.1 HZ.out.2.1 HND.out HQ1.out HN2.out (by have := HG5.out; simp; omega)⟩
            · have hlt2 : (j : Int) < (l.length : Int) := by omega
              go_wp2_with fail
              clear hlt hlt2 hby hb1 hn0 hn1 hv hv2
              go_loopg [1] (l.length - j) (fun nn s1 wy => ∃ q : Nat, j ≤ q ∧ q ≤ l.length ∧ nn = l.length - q ∧ s1 = .int .i64 q ∧ Hid (l.drop j = sp (q - j) ++ l.drop q ∧ Tch [] w wy))
              case atStart => exact ⟨j, Nat.le_refl _, HJ.out.2, rfl, rfl, by simp [sp], HZT.out⟩
              case round =>
                obtain ⟨q, hq1, hq2, rfl, rfl, HQ⟩ := hrel
                rename World => wy
                have HQJ := Lib.hid (⟨hq1, hq2⟩ : _ ∧ _)
                clear hq1 hq2
                by_cases hsp : q < l.length ∧ l.getD q 0 = 32
                · have hlt2 : (q : Int) < (l.length : Int) := by omega
                  have hlt := hsp.1
                  have hbb : byI l q = 32 := by unfold byI; rw [hsp.2]; rfl
                  have hqx : (q : Int) ≤ 1000000 := by omega
                  have HSP := Lib.hid hsp
                  clear hsp
                  go_wp2_with fail
                  go_roundg (l.length - (q + 1))
                  case rel =>
                    have h1 := HSP.out
                    refine ⟨q + 1, by have := HQJ.out; omega, h1.1, rfl, by go_num, ?_, HQ.out.2⟩
                    rw [HQ.out.1, drop_getD h1.1, h1.2, sp_succ]
                    congr 2
                    have := HQJ.out
                    omega
                  case measure => have := HSP.out.1; omega
                · have HQ1 := Lib.hid HQ.out.1
                  have HQT := Lib.hid HQ.out.2
                  have hle : q ≤ l.length := HQJ.out.2
                  have hqx : (q : Int) ≤ 1000000 := by omega
                  have hor : (l.length ≤ q) ∨ (q < l.length ∧ byI l q ≠ 32) := by
                    rcases Nat.lt_or_ge q l.length with h | h
                    · refine .inr ⟨h, fun e => hsp ⟨h, ?_⟩⟩
                      unfold byI at e
                      exact UInt8.toNat_inj.1 (by rw [show (32 : UInt8).toNat = 32 from rfl]; omega)
                    · exact .inl h
                  have HN2 := Lib.hid (nosp_of hor)
                  clear hsp HQ
                  have hd5 : dz.length ≤ 5 := HZ.out.2.1
                  have hdc : ((0 : Int) < (dz.length : Int) ∧ (dz.length : Int) < 5 ∧ 0 < dz.length ∧ dz.length < 5) ∨ ((dz.length : Int) = 0 ∧ dz.length = 0) ∨ ((dz.length : Int) = 5 ∧ dz.length = 5 ∧ decide ((dz.length : Int) < 5) = false) := by
                    by_cases h0 : dz.length = 0
                    · right; left; exact ⟨by omega, h0⟩
                    · by_cases h5 : dz.length = 5
                      · right; right; exact ⟨by omega, h5, decide_eq_false (by omega)⟩
                      · left; omega
                  rcases hor with hge | ⟨hlt, hby⟩
                  · have hde : decide (q < l.length) = false := decide_eq_false (by omega)
                    have hde2 : decide ((q : Int) < (l.length : Int)) = false := decide_eq_false (by omega)
                    have hge2 : (l.length : Int) ≤ (q : Int) := by omega
                    rcases hdc with ⟨g1, g2, g3, g4⟩ | ⟨g1, g2⟩ | ⟨g1, g2, g3⟩
                    · have HG := Lib.hid (⟨g3, g4⟩ : _ ∧ _)
                      go_wp2_with fail
                      go_ret3
                      exact ⟨val dz, q, true, rfl, HQT.out, HQJ.out.2, val_le5 _ HZ.out.1 HZ.out.2.1, placeF_of HR1.out HN1.out HZ.out.2.2 HZ.out.1 HZ.out.2.1 HND.out HQ1.out HN2.out (by have := HG.out; simp; omega)⟩
                    · have hdz : dz = [] := List.length_eq_zero_iff.1 g2
                      subst hdz
                      clear g1 g2
                      go_wp2_with fail
                      go_ret3
                      exact ⟨val [], q, false, rfl, HQT.out, HQJ.out.2, val_le5 _ HZ.out.1 HZ.out.2.1, placeF_of HR1.out HN1.out HZ.out.2.2 HZ.out.1 HZ.out.2.1 HND.out HQ1.out HN2.out (by simp)⟩
                    · have HG5 := Lib.hid g2
                      go_wp2_with fail
                      go_ret3
                      exact ⟨val dz, q, false, rfl, HQT.out, HQJ.out.2, val_le5 _ HZ.out.1 HZ.out.2.1, placeF_of HR1.out HN1.out HZ.out.2.2 HZ.out.1 HZ.out.2.1 HND.out HQ1.out HN2.out (by have := HG5.out; simp; omega)⟩
                  · have hlt2 : (q : Int) < (l.length : Int) := by omega
                    have hbe : (byI l q == 32) = false := beq_eq_false_iff_ne.2 hby
                    have hbe2 : decide (byI l q = 32) = false := decide_eq_false hby
                    rcases hdc with ⟨g1, g2, g3, g4⟩ | ⟨g1, g2⟩ | ⟨g1, g2, g3⟩
                    · have HG := Lib.hid (⟨g3, g4⟩ : _ ∧ _)
                      go_wp2_with fail
                      go_ret3
                      exact ⟨val dz, q, true, rfl, HQT.out, HQJ.out.2, val_le5 _ HZ.out.1 HZ.out.2.1, placeF_of HR1.out HN1.out HZ.out.2.2 HZ.out.1 HZ.out.2.1 HND.out HQ1.out HN2.out (by have := HG.out; simp; omega)⟩
                    · have hdz : dz = [] := List.length_eq_zero_iff.1 g2
                      subst hdz
                      clear g1 g2
                      go_wp2_with fail
                      go_ret3
                      exact ⟨val [], q, false, rfl, HQT.out, HQJ.out.2, val_le5 _ HZ.out.1 HZ.out.2.1, placeF_of HR1.out HN1.out HZ.out.2.2 HZ.out.1 HZ.out.2.1 HND.out HQ1.out HN2.out (by simp)⟩
                    · have HG5 := Lib.hid g2
                      go_wp2_with fail
                      go_ret3
                      exact ⟨val dz, q, false, rfl, HQT.out, HQJ.out.2, val_le5 _ HZ.out.1 HZ.out.2.1, placeF_of HR1.out HN1.out HZ.out.2.2 HZ.out.1 HZ.out.2.1 HND.out HQ1.out HN2.out (by have := HG5.out; simp; omega)⟩
            · have hlt2 : (j : Int) < (l.length : Int) := by omega
              have hb6 : (dz.length : Int) = 5 := by omega
              have hb7 : decide ((dz.length : Int) < 5) = false := decide_eq_false (by omega)
              go_wp2_with fail
              clear hlt hlt2 hb1 hb3 hb5 hb6 hb7 hn0 hn1 hv hv2
              go_loopg [1] (l.length - j) (fun nn s1 wy => ∃ q : Nat, j ≤ q ∧ q ≤ l.length ∧ nn = l.length - q ∧ s1 = .int .i64 q ∧ Hid (l.drop j = sp (q - j) ++ l.drop q ∧ Tch [] w wy))
              case atStart => exact ⟨j, Nat.le_refl _, HJ.out.2, rfl, rfl, by simp [sp], HZT.out⟩
              case round =>
                obtain ⟨q, hq1, hq2, rfl, rfl, HQ⟩ := hrel
                rename World => wy
                have HQJ := Lib.hid (⟨hq1, hq2⟩ : _ ∧ _)
                clear hq1 hq2
                by_cases hsp : q < l.length ∧ l.getD q 0 = 32
                · have hlt2 : (q : Int) < (l.length : Int) := by omega
                  have hlt := hsp.1
                  have hbb : byI l q = 32 := by unfold byI; rw [hsp.2]; rfl
                  have hqx : (q : Int) ≤ 1000000 := by omega
                  have HSP := Lib.hid hsp
                  clear hsp
                  go_wp2_with fail
                  go_roundg (l.length - (q + 1))
                  case rel =>
                    have h1 := HSP.out
                    refine ⟨q + 1, by have := HQJ.out; omega, h1.1, rfl, by go_num, ?_, HQ.out.2⟩
                    rw [HQ.out.1, drop_getD h1.1, h1.2, sp_succ]
                    congr 2
                    have := HQJ.out
                    omega
                  case measure => have := HSP.out.1; omega
                · have HQ1 := Lib.hid HQ.out.1
                  have HQT := Lib.hid HQ.out.2
                  have hle : q ≤ l.length := HQJ.out.2
                  have hqx : (q : Int) ≤ 1000000 := by omega
                  have hor : (l.length ≤ q) ∨ (q < l.length ∧ byI l q ≠ 32) := by
                    rcases Nat.lt_or_ge q l.length with h | h
                    · refine .inr ⟨h, fun e => hsp ⟨h, ?_⟩⟩
                      unfold byI at e
                      exact UInt8.toNat_inj.1 (by rw [show (32 : UInt8).toNat = 32 from rfl]; omega)
                    · exact .inl h
                  have HN2 := Lib.hid (nosp_of hor)
                  clear hsp HQ
                  have hd5 : dz.length ≤ 5 := HZ.out.2.1
                  have hdc : ((0 : Int) < (dz.length : Int) ∧ (dz.length : Int) < 5 ∧ 0 < dz.length ∧ dz.length < 5) ∨ ((dz.length : Int) = 0 ∧ dz.length = 0) ∨ ((dz.length : Int) = 5 ∧ dz.length = 5 ∧ decide ((dz.length : Int) < 5) = false) := by
                    by_cases h0 : dz.length = 0
                    · right; left; exact ⟨by omega, h0⟩
                    · by_cases h5 : dz.length = 5
                      · right; right; exact ⟨by omega, h5, decide_eq_false (by omega)⟩
                      · left; omega
                  rcases hor with hge | ⟨hlt, hby⟩
                  · have hde : decide (q < l.length) = false := decide_eq_false (by omega)
                    have hde2 : decide ((q : Int) < (l.length : Int)) = false := decide_eq_false (by omega)
                    have hge2 : (l.length : Int) ≤ (q : Int) := by omega
                    rcases hdc with ⟨g1, g2, g3, g4⟩ | ⟨g1, g2⟩ | ⟨g1, g2, g3⟩
                    · have HG := Lib.hid (⟨g3, g4⟩ : _ ∧ _)
                      go_wp2_with fail
                      go_ret3
                      exact ⟨val dz, q, true, rfl, HQT.out, HQJ.out.2, val_le5 _ HZ.out.1 HZ.out.2.1, placeF_of HR1.out HN1.out HZ.out.2.2 HZ.out.1 HZ.out.2.1 HND.out HQ1.out HN2.out (by have := HG.out; simp; omega)⟩
                    · have hdz : dz = [] := List.length_eq_zero_iff.1 g2
                      subst hdz
                      clear g1 g2
                      go_wp2_with fail
                      go_ret3
                      exact ⟨val [], q, false, rfl, HQT.out, HQJ.out.2, val_le5 _ HZ.out.1 HZ.out.2.1, placeF_of HR1.out HN1.out HZ.out.2.2 HZ.out.1 HZ.out.2.1 HND.out HQ1.out HN2.out (by simp)⟩
                    · have HG5 := Lib.hid g2
                      go_wp2_with fail
                      go_ret3
                      exact ⟨val dz, q, false, rfl, HQT.out, HQJ.out.2, val_le5 _ HZ.out.1 HZ.out.2.1, placeF_of HR1.out HN1.out HZ.out.2.2 HZ.out.1 HZ.out.2.1 HND.out HQ1.out HN2.out (by have := HG5.out; simp; omega)⟩
                  · have hlt2 : (q : Int) < (l.length : Int) := by omega
                    have hbe : (byI l q == 32) = false := beq_eq_false_iff_ne.2 hby
                    have hbe2 : decide (byI l q = 32) = false := decide_eq_false hby
                    rcases hdc with ⟨g1, g2, g3, g4⟩ | ⟨g1, g2⟩ | ⟨g1, g2, g3⟩
                    · have HG := Lib.hid (⟨g3, g4⟩ : _ ∧ _)
                      go_wp2_with fail
                      go_ret3
                      exact ⟨val dz, q, true, rfl, HQT.out, HQJ.out.2, val_le5 _ HZ.out.1 HZ.out.2.1, placeF_of HR1.out HN1.out HZ.out.2.2 HZ.out.1 HZ.out.2.1 HND.out HQ1.out HN2.out (by have := HG.out; simp; omega)⟩
                    · have hdz : dz = [] := List.length_eq_zero_iff.1 g2
                      subst hdz
                      clear g1 g2
                      go_wp2_with fail
                      go_ret3
                      exact ⟨val [], q, false, rfl, HQT.out, HQJ.out.2, val_le5 _ HZ.out.1 HZ.out.2.1, placeF_of HR1.out HN1.out HZ.out.2.2 HZ.out.1 HZ.out.2.1 HND.out HQ1.out HN2.out (by simp)⟩
                    · have HG5 := Lib.hid g2
                      go_wp2_with fail
                      go_ret3
                      exact ⟨val dz, q, false, rfl, HQT.out, HQJ.out.2, val_le5 _ HZ.out.1 HZ.out.2.1, placeF_of HR1.out HN1.out HZ.out.2.2 HZ.out.1 HZ.out.2.1 HND.out HQ1.out HN2.out (by have := HG5.out; simp; omega)⟩
      · have hlt2 : (i : Int) < (l.length : Int) := by omega
        have hbe : (byI l i == 32) = false := beq_eq_false_iff_ne.2 hby
        have hbe2 : decide (byI l i = 32) = false := decide_eq_false hby
        go_wp2_with fail
        clear hlt hlt2 hby hbe hbe2
        go_loopg [1, 7, 8] (l.length - i) (fun nn s1 s7 s8 wz => ∃ (j : Nat) (dz : List UInt8), i ≤ j ∧ j ≤ l.length ∧ nn = l.length - j ∧ s1 = .int .i64 j ∧ s7 = .int .i64 (val dz : Nat) ∧ s8 = .int .i64 dz.length ∧ Hid (((∀ x ∈ dz, isD x) ∧ dz.length ≤ 5 ∧ l.drop i = dz ++ l.drop j) ∧ Tch [] w wz))
        case atStart => exact ⟨i, [], Nat.le_refl _, HI.out.2, rfl, rfl, rfl, rfl, ⟨by simp, by simp, rfl⟩, HRT.out⟩
        case round =>
          obtain ⟨j, dz, hj1, hj2, rfl, rfl, rfl, rfl, HZZ⟩ := hrel
          rename World => wz
          have HJ := Lib.hid (⟨hj1, hj2⟩ : _ ∧ _)
          have HZ := Lib.hid HZZ.out.1
          have HZT := Lib.hid HZZ.out.2
          have hv : val dz ≤ 99999 := val_le5 _ HZ.out.1 HZ.out.2.1
          have hv2 : (val dz : Int) ≤ 99999 := by omega
          clear hj1 hj2 HZZ
          have hjx : (j : Int) ≤ 1000000 := by have := HJ.out.2; omega
          have hn0 := byI_nonneg l j
          have hn1 := byI_le l j
          by_cases hall : j < l.length ∧ 48 ≤ byI l j ∧ byI l j ≤ 57 ∧ dz.length < 5
          · obtain ⟨hlt, h48, h57, hl5⟩ := hall
            have hlt2 : (j : Int) < (l.length : Int) := by omega
            have hl52 : (dz.length : Int) < 5 := by omega
            have HSP := Lib.hid (⟨hlt, h48, h57, hl5⟩ : _ ∧ _ ∧ _ ∧ _)
            clear hl5
            go_wp2_with fail
            go_roundg (l.length - (j + 1))
            case rel =>
              obtain ⟨h1, h2, h3, h4⟩ := HSP.out
              unfold byI at h2 h3
              refine ⟨j + 1, dz ++ [l.getD j 0], by have := HJ.out; omega, h1, rfl, by go_num, ?_, by rw [List.length_append]; rfl, ⟨fun x hx => ?_, by rw [List.length_append, List.length_singleton]; omega, ?_⟩, HZT.out⟩
              · rw [val_snoc]
                unfold byI
                congr 1
                omega
              · rcases List.mem_append.1 hx with hx | hx
                · exact HZ.out.1 x hx
                · rw [List.mem_singleton.1 hx]; unfold isD; omega
              · rw [HZ.out.2.2, drop_getD h1, List.append_assoc]; rfl
            case measure => have := HSP.out.1; omega
          · have hor : (l.length ≤ j) ∨ (j < l.length ∧ byI l j < 48) ∨ (j < l.length ∧ 48 ≤ byI l j ∧ 57 < byI l j) ∨ (j < l.length ∧ 48 ≤ byI l j ∧ byI l j ≤ 57 ∧ dz.length = 5) := by
              have := HZ.out.2.1
              omega
            have HND := Lib.hid (nodg_of hor)
            clear hall
            rcases hor with hge | ⟨hlt, hby⟩ | ⟨hlt, hb1, hby⟩ | ⟨hlt, hb1, hb3, hb5⟩
            · have hde : decide (j < l.length) = false := decide_eq_false (by omega)
              have hde2 : decide ((j : Int) < (l.length : Int)) = false := decide_eq_false (by omega)
              have hge2 : (l.length : Int) ≤ (j : Int) := by omega
              go_wp2_with fail
              clear hde hde2 hge hge2 hn0 hn1 hv hv2
              go_loopg [1] (l.length - j) (fun nn s1 wy => ∃ q : Nat, j ≤ q ∧ q ≤ l.length ∧ nn = l.length - q ∧ s1 = .int .i64 q ∧ Hid (l.drop j = sp (q - j) ++ l.drop q ∧ Tch [] w wy))
              case atStart => exact ⟨j, Nat.le_refl _, HJ.out.2, rfl, rfl, by simp [sp], HZT.out⟩
              case round =>
                obtain ⟨q, hq1, hq2, rfl, rfl, HQ⟩ := hrel
                rename World => wy
                have HQJ := Lib.hid (⟨hq1, hq2⟩ : _ ∧ _)
                clear hq1 hq2
                by_cases hsp : q < l.length ∧ l.getD q 0 = 32
                · have hlt2 : (q : Int) < (l.length : Int) := by omega
                  have hlt := hsp.1
                  have hbb : byI l q = 32 := by unfold byI; rw [hsp.2]; rfl
                  have hqx : (q : Int) ≤ 1000000 := by omega
                  have HSP := Lib.hid hsp
                  clear hsp
                  go_wp2_with fail
                  go_roundg (l.length - (q + 1))
                  case rel =>
                    have h1 := HSP.out
                    refine ⟨q + 1, by have := HQJ.out; omega, h1.1, rfl, by go_num, ?_, HQ.out.2⟩
                    rw [HQ.out.1, drop_getD h1.1, h1.2, sp_succ]
                    congr 2
                    have := HQJ.out
                    omega
                  case measure => have := HSP.out.1; omega
                · have HQ1 := Lib.hid HQ.out.1
                  have HQT := Lib.hid HQ.out.2
                  have hle : q ≤ l.length := HQJ.out.2
                  have hqx : (q : Int) ≤ 1000000 := by omega
                  have hor : (l.length ≤ q) ∨ (q < l.length ∧ byI l q ≠ 32) := by
                    rcases Nat.lt_or_ge q l.length with h | h
                    · refine .inr ⟨h, fun e => hsp ⟨h, ?_⟩⟩
                      unfold byI at e
                      exact UInt8.toNat_inj.1 (by rw [show (32 : UInt8).toNat = 32 from rfl]; omega)
                    · exact .inl h
                  have HN2 := Lib.hid (nosp_of hor)
                  clear hsp HQ
                  have hd5 : dz.length ≤ 5 := HZ.out.2.1
                  have hdc : ((0 : Int) < (dz.length : Int) ∧ (dz.length : Int) < 5 ∧ 0 < dz.length ∧ dz.length < 5) ∨ ((dz.length : Int) = 0 ∧ dz.length = 0) ∨ ((dz.length : Int) = 5 ∧ dz.length = 5 ∧ decide ((dz.length : Int) < 5) = false) := by
                    by_cases h0 : dz.length = 0
                    · right; left; exact ⟨by omega, h0⟩
                    · by_cases h5 : dz.length = 5
                      · right; right; exact ⟨by omega, h5, decide_eq_false (by omega)⟩
                      · left; omega
                  rcases hor with hge | ⟨hlt, hby⟩
                  · have hde : decide (q < l.length) = false := decide_eq_false (by omega)
                    have hde2 : decide ((q : Int) < (l.length : Int)) = false := decide_eq_false (by omega)
                    have hge2 : (l.length : Int) ≤ (q : Int) := by omega
                    rcases hdc with ⟨g1, g2, g3, g4⟩ | ⟨g1, g2⟩ | ⟨g1, g2, g3⟩
                    · have HG := Lib.hid (⟨g3, g4⟩ : _ ∧ _)
                      go_wp2_with fail
                      go_ret3
                      exact ⟨val dz, q, true, rfl, HQT.out, HQJ.out.2, val_le5 _ HZ.out.1 HZ.out.2.1, placeF_of HR1.out HN1.out HZ.out.2.2 HZ.out.1 HZ.out.2.1 HND.out HQ1.out HN2.out (by have := HG.out; simp; omega)⟩
                    · have hdz : dz = [] := List.length_eq_zero_iff.1 g2
                      subst hdz
                      clear g1 g2
                      go_wp2_with fail
                      go_ret3
                      exact ⟨val [], q, false, rfl, HQT.out, HQJ.out.2, val_le5 _ HZ.out.1 HZ.out.2.1, placeF_of HR1.out HN1.out HZ.out.2.2 HZ.out.1 HZ.out.2.1 HND.out HQ1.out HN2.out (by simp)⟩
                    · have HG5 := Lib.hid g2
                      go_wp2_with fail
                      go_ret3
                      exact ⟨val dz, q, false, rfl, HQT.out, HQJ.out.2, val_le5 _ HZ.out.1 HZ.out.2.1, placeF_of HR1.out HN1.out HZ.out.2.2 HZ.out.1 HZ.out.2.1 HND.out HQ1.out HN2.out (by have := HG5.out; simp; omega)⟩
                  · have hlt2 : (q : Int) < (l.length : Int) := by omega
                    have hbe : (byI l q == 32) = false := beq_eq_false_iff_ne.2 hby
                    have hbe2 : decide (byI l q = 32) = false := decide_eq_false hby
                    rcases hdc with ⟨g1, g2, g3, g4⟩ | ⟨g1, g2⟩ | ⟨g1, g2, g3⟩
                    · have HG := Lib.hid (⟨g3, g4⟩ : _ ∧ _)
                      go_wp2_with fail
                      go_ret3
                      exact ⟨val dz, q, true, rfl, HQT.out, HQJ.out.2, val_le5 _ HZ.out.1 HZ.out.2.1, placeF_of HR1.out HN1.out HZ.out.2.2 HZ.out.1 HZ.out.2.1 HND.out HQ1.out HN2.out (by have := HG.out; simp; omega)⟩
                    · have hdz : dz = [] := List.length_eq_zero_iff.1 g2
                      subst hdz
                      clear g1 g2
                      go_wp2_with fail
                      go_ret3
                      exact ⟨val [], q, false, rfl, HQT.out, HQJ.out.2, val_le5 _ HZ.out.1 HZ.out.2.1, placeF_of HR1.out HN1.out HZ.out.2.2 HZ.out.1 HZ.out.2.1 HND.out HQ1.out HN2.out (by simp)⟩
                    · have HG5 := Lib.hid g2
                      go_wp2_with fail
                      go_ret3
                      exact ⟨val dz, q, false, rfl, HQT.out, HQJ.out.2, val_le5 _ HZ.out.1 HZ.out.2.1, placeF_of HR1.out HN1.out HZ.out.2.2 HZ.out.1 HZ.out.2.1 HND.out HQ1.out HN2.out (by have := HG5.out; simp; omega)⟩
            · have hlt2 : (j : Int) < (l.length : Int) := by omega
              go_wp2_with fail
              clear hlt hlt2 hby hn0 hn1 hv hv2
              go_loopg [1] (l.length - j) (fun nn s1 wy => ∃ q : Nat, j ≤ q ∧ q ≤ l.length ∧ nn = l.length - q ∧ s1 = .int .i64 q ∧ Hid (l.drop j = sp (q - j) ++ l.drop q ∧ Tch [] w wy))
              case atStart => exact ⟨j, Nat.le_refl _, HJ.out.2, rfl, rfl, by simp [sp], HZT.out⟩
              case round =>
                obtain ⟨q, hq1, hq2, rfl, rfl, HQ⟩ := hrel
                rename World => wy
                have HQJ := Lib.hid (⟨hq1, hq2⟩ : _ ∧ _)
                clear hq1 hq2
                by_cases hsp : q < l.length ∧ l.getD q 0 = 32
                · have hlt2 : (q : Int) < (l.length : Int) := by omega
                  have hlt := hsp.1
                  have hbb : byI l q = 32 := by unfold byI; rw [hsp.2]; rfl
                  have hqx : (q : Int) ≤ 1000000 := by omega
                  have HSP := Lib.hid hsp
                  clear hsp
                  go_wp2_with fail
                  go_roundg (l.length - (q + 1))
                  case rel =>
                    have h1 := HSP.out
                    refine ⟨q + 1, by have := HQJ.out; omega, h1.1, rfl, by go_num, ?_, HQ.out.2⟩
                    rw [HQ.out.1, drop_getD h1.1, h1.2, sp_succ]
                    congr 2
                    have := HQJ.out
                    omega
                  case measure => have := HSP.out.1; omega
                · have HQ1 := Lib.hid HQ.out.1
                  have HQT := Lib.hid HQ.out.2
                  have hle : q ≤ l.length := HQJ.out.2
                  have hqx : (q : Int) ≤ 1000000 := by omega
                  have hor : (l.length ≤ q) ∨ (q < l.length ∧ byI l q ≠ 32) := by
                    rcases Nat.lt_or_ge q l.length with h | h
                    · refine .inr ⟨h, fun e => hsp ⟨h, ?_⟩⟩
                      unfold byI at e
                      exact UInt8.toNat_inj.1 (by rw [show (32 : UInt8).toNat = 32 from rfl]; omega)
                    · exact .inl h
                  have HN2 := Lib.hid (nosp_of hor)
                  clear hsp HQ
                  have hd5 : dz.length ≤ 5 := HZ.out.2.1
                  have hdc : ((0 : Int) < (dz.length : Int) ∧ (dz.length : Int) < 5 ∧ 0 < dz.length ∧ dz.length < 5) ∨ ((dz.length : Int) = 0 ∧ dz.length = 0) ∨ ((dz.length : Int) = 5 ∧ dz.length = 5 ∧ decide ((dz.length : Int) < 5) = false) := by
                    by_cases h0 : dz.length = 0
                    · right; left; exact ⟨by omega, h0⟩
                    · by_cases h5 : dz.length = 5
                      · right; right; exact ⟨by omega, h5, decide_eq_false (by omega)⟩
                      · left; omega
                  rcases hor with hge | ⟨hlt, hby⟩
                  · have hde : decide (q < l.length) = false := decide_eq_false (by omega)
                    have hde2 : decide ((q : Int) < (l.length : Int)) = false := decide_eq_false (by omega)
                    have hge2 : (l.length : Int) ≤ (q : Int) := by omega
                    rcases hdc with ⟨g1, g2, g3, g4⟩ | ⟨g1, g2⟩ | ⟨g1, g2, g3⟩
                    · have HG := Lib.hid (⟨g3, g4⟩ : _ ∧ _)
                      go_wp2_with fail
                      go_ret3
                      exact ⟨val dz, q, true, rfl, HQT.out, HQJ.out.2, val_le5 _ HZ.out.1 HZ.out.2.1, placeF_of HR1.out HN1.out HZ.out.2.2 HZ.out.1 HZ.out.2.1 HND.out HQ1.out HN2.out (by have := HG.out; simp; omega)⟩
                    · have hdz : dz = [] := List.length_eq_zero_iff.1 g2
                      subst hdz
                      clear g1 g2
                      go_wp2_with fail
                      go_ret3
                      exact ⟨val [], q, false, rfl, HQT.out, HQJ.out.2, val_le5 _ HZ.out.1 HZ.out.2.1, placeF_of HR1.out HN1.out HZ.out.2.2 HZ.out.1 HZ.out.2.1 HND.out HQ1.out HN2.out (by simp)⟩
                    · have HG5 := Lib.hid g2
                      go_wp2_with fail
                      go_ret3
                      exact ⟨val dz, q, false, rfl, HQT.out, HQJ.out.2, val_le5 _ HZ.out.1 HZ.out.2.1, placeF_of HR1.out HN1.out HZ.out.2.2 HZ.out.1 HZ.out.2.1 HND.out HQ1.out HN2.out (by have := HG5.out; simp; omega)⟩
                  · have hlt2 : (q : Int) < (l.length : Int) := by omega
                    have hbe : (byI l q == 32) = false := beq_eq_false_iff_ne.2 hby
                    have hbe2 : decide (byI l q = 32) = false := decide_eq_false hby
                    rcases hdc with ⟨g1, g2, g3, g4⟩ | ⟨g1, g2⟩ | ⟨g1, g2, g3⟩
                    · have HG := Lib.hid (⟨g3, g4⟩ : _ ∧ _)
                      go_wp2_with fail
                      go_ret3
                      exact ⟨val dz, q, true, rfl, HQT.out, HQJ.out.2, val_le5 _ HZ.out.1 HZ.out.2.1, placeF_of HR1.out HN1.out HZ.out.2.2 HZ.out.1 HZ.out.2.1 HND.out HQ1.out HN2.out (by have := HG.out; simp; omega)⟩
                    · have hdz : dz = [] := List.length_eq_zero_iff.1 g2
                      subst hdz
                      clear g1 g2
                      go_wp2_with fail
                      go_ret3
                      exact ⟨val [], q, false, rfl, HQT.out, HQJ.out.2, val_le5 _ HZ.out.1 HZ.out.2.1, placeF_of HR1.out HN1.out HZ.out.2.2 HZ.out.1 HZ.out.2.1 HND.out HQ1.out HN2.out (by simp)⟩
                    · have HG5 := Lib.hid g2
                      go_wp2_with fail
                      go_ret3
                      exact ⟨val dz, q, false, rfl, HQT.out, HQJ.out.2, val_le5 _ HZ.out.1 HZ.out.2.1, placeF_of HR1.out HN1.out HZ.out.2.2 HZ.out.1 HZ.out.2.1 HND.out HQ1.out HN2.out (by have := HG5.out; simp; omega)⟩
            · have hlt2 : (j : Int) < (l.length : Int) := by omega
              go_wp2_with fail
              clear hlt hlt2 hby hb1 hn0 hn1 hv hv2
              go_loopg [1] (l.length - j) (fun nn s1 wy => ∃ q : Nat, j ≤ q ∧ q ≤ l.length ∧ nn = l.length - q ∧ s1 = .int .i64 q ∧ Hid (l.drop j = sp (q - j) ++ l.drop q ∧ Tch [] w wy))
              case atStart => exact ⟨j, Nat.le_refl _, HJ.out.2, rfl, rfl, by simp [sp], HZT.out⟩
              case round =>
                obtain ⟨q, hq1, hq2, rfl, rfl, HQ⟩ := hrel
                rename World => wy
                have HQJ := Lib.hid (⟨hq1, hq2⟩ : _ ∧ _)
                clear hq1 hq2
                by_cases hsp : q < l.length ∧ l.getD q 0 = 32
                · have hlt2 : (q : Int) < (l.length : Int) := by omega
                  have hlt := hsp.1
                  have hbb : byI l q = 32 := by unfold byI; rw [hsp.2]; rfl
                  have hqx : (q : Int) ≤ 1000000 := by omega
                  have HSP := Lib.hid hsp
                  clear hsp
                  go_wp2_with fail
                  go_roundg (l.length - (q + 1))
                  case rel =>
                    have h1 := HSP.out
                    refine ⟨q + 1, by have := HQJ.out; omega, h1.1, rfl, by go_num, ?_, HQ.out.2⟩
                    rw [HQ.out.1, drop_getD h1.1, h1.2, sp_succ]
                    congr 2
                    have := HQJ.out
                    omega
                  case measure => have := HSP.out.1; omega
                · have HQ1 := Lib.hid HQ.out.1
                  have HQT := Lib.hid HQ.out.2
                  have hle : q ≤ l.length := HQJ.out.2
                  have hqx : (q : Int) ≤ 1000000 := by omega
                  have hor : (l.length ≤ q) ∨ (q < l.length ∧ byI l q ≠ 32) := by
                    rcases Nat.lt_or_ge q l.length with h | h
                    · refine .inr ⟨h, fun e => hsp ⟨h, ?_⟩⟩
                      unfold byI at e
                      exact UInt8.toNat_inj.1 (by rw [show (32 : UInt8).toNat = 32 from rfl]; omega)
                    · exact .inl h
                  have HN2 := Lib.hid (nosp_of hor)
                  clear hsp HQ
                  have hd5 : dz.length ≤ 5 := HZ.out.2.1
                  have hdc : ((0 : Int) < (dz.length : Int) ∧ (dz.length : Int) < 5 ∧ 0 < dz.length ∧ dz.length < 5) ∨ ((dz.length : Int) = 0 ∧ dz.length = 0) ∨ ((dz.length : Int) = 5 ∧ dz.length = 5 ∧ decide ((dz.length : Int) < 5) = false) := by
                    by_cases h0 : dz.length = 0
                    · right; left; exact ⟨by omega, h0⟩
                    · by_cases h5 : dz.length = 5
                      · right; right; exact ⟨by omega, h5, decide_eq_false (by omega)⟩
                      · left; omega
                  rcases hor with hge | ⟨hlt, hby⟩
                  · have hde : decide (q < l.length) = false := decide_eq_false (by omega)
                    have hde2 : decide ((q : Int) < (l.length : Int)) = false := decide_eq_false (by omega)
                    have hge2 : (l.length : Int) ≤ (q : Int) := by omega
                    rcases hdc with ⟨g1, g2, g3, g4⟩ | ⟨g1, g2⟩ | ⟨g1, g2, g3⟩
                    · have HG := Lib.hid (⟨g3, g4⟩ : _ ∧ _)
                      go_wp2_with fail
                      go_ret3
                      exact ⟨val dz, q, true, rfl, HQT.out, HQJ.out.2, val_le5 _ HZ.out.1 HZ.out.2.1, placeF_of HR1.out HN1.out HZ.out.2.2 HZ.out.1 HZ.out.2.1 HND.out HQ1.out HN2.out (by have := HG.out; simp; omega)⟩
                    · have hdz : dz = [] := List.length_eq_zero_iff.1 g2
                      subst hdz
                      clear g1 g2
                      go_wp2_with fail
                      go_ret3
                      exact ⟨val [], q, false, rfl, HQT.out, HQJ.out.2, val_le5 _ HZ.out.1 HZ.out.2.1, placeF_of HR1.out HN1.out HZ.out.2.2 HZ.out.1 HZ.out.2.1 HND.out HQ1.out HN2.out (by simp)⟩
                    · have HG5 := Lib.hid g2
                      go_wp2_with fail
                      go_ret3
                      exact ⟨val dz, q, false, rfl, HQT.out, HQJ.out.2, val_le5 _ HZ.out.1 HZ.out.2.1, placeF_of HR1.out HN1.out HZ.out.2.2 HZ.out.1 HZ.out.2.1 HND.out HQ1.out HN2.out (by have := HG5.out; simp; omega)⟩
                  · have hlt2 : (q : Int) < (l.length : Int) := by omega
                    have hbe : (byI l q == 32) = false := beq_eq_false_iff_ne.2 hby
                    have hbe2 : decide (byI l q = 32) = false := decide_eq_false hby
                    rcases hdc with ⟨g1, g2, g3, g4⟩ | ⟨g1, g2⟩ | ⟨g1, g2, g3⟩
                    · have HG := Lib.hid (⟨g3, g4⟩ : _ ∧ _)
                      go_wp2_with fail
                      go_ret3
                      exact ⟨val dz, q, true, rfl, HQT.out, HQJ.out.2, val_le5 _ HZ.out.1 HZ.out.2.1, placeF_of HR1.out HN1.out HZ.out.2.2 HZ.out.1 HZ.out.2.1 HND.out HQ1.out HN2.out (by have := HG.out; simp; omega)⟩
                    · have hdz : dz = [] := List.length_eq_zero_iff.1 g2
                      subst hdz
                      clear g1 g2
                      go_wp2_with fail
                      go_ret3
                      exact ⟨val [], q, false, rfl, HQT.out, HQJ.out.2, val_le5 _ HZ.out.1 HZ.out.2.1, placeF_of HR1.out HN1.out HZ.out.2.2 HZ.out.1 HZ.out.2.1 HND.out HQ1.out HN2.out (by simp)⟩
                    · have HG5 := Lib.hid g2
                      go_wp2_with fail
                      go_ret3
                      exact ⟨val dz, q, false, rfl, HQT.out, HQJ.out.2, val_le5 _ HZ.out.1 HZ.out.2.1, placeF_of HR1.out HN1.out HZ.out.2.2 HZ.out.1 HZ.out.2.1 HND.out HQ1.out HN2.out (by have := HG5.out; simp; omega)⟩
            · have hlt2 : (j : Int) < (l.length : Int) := by omega
              have hb6 : (dz.length : Int) = 5 := by omega
              have hb7 : decide ((dz.length : Int) < 5) = false := decide_eq_false (by omega)
              go_wp2_with fail
              clear hlt hlt2 hb1 hb3 hb5 hb6 hb7 hn0 hn1 hv hv2
              go_loopg [1] (l.length - j) (fun nn s1 wy => ∃ q : Nat, j ≤ q ∧ q ≤ l.length ∧ nn = l.length - q ∧ s1 = .int .i64 q ∧ Hid (l.drop j = sp (q - j) ++ l.drop q ∧ Tch [] w wy))
              case atStart => exact ⟨j, Nat.le_refl _, HJ.out.2, rfl, rfl, by simp [sp], HZT.out⟩
              case round =>
                obtain ⟨q, hq1, hq2, rfl, rfl, HQ⟩ := hrel
                rename World => wy
                have HQJ := Lib.hid (⟨hq1, hq2⟩ : _ ∧ _)
                clear hq1 hq2
                by_cases hsp : q < l.length ∧ l.getD q 0 = 32
                · have hlt2 : (q : Int) < (l.length : Int) := by omega
                  have hlt := hsp.1
                  have hbb : byI l q = 32 := by unfold byI; rw [hsp.2]; rfl
                  have hqx : (q : Int) ≤ 1000000 := by omega
                  have HSP := Lib.hid hsp
                  clear hsp
                  go_wp2_with fail
                  go_roundg (l.length - (q + 1))
                  case rel =>
                    have h1 := HSP.out
                    refine ⟨q + 1, by have := HQJ.out; omega, h1.1, rfl, by go_num, ?_, HQ.out.2⟩
                    rw [HQ.out.1, drop_getD h1.1, h1.2, sp_succ]
                    congr 2
                    have := HQJ.out
                    omega
                  case measure => have := HSP.out.1; omega
                · have HQ1 := Lib.hid HQ.out.1
                  have HQT := Lib.hid HQ.out.2
                  have hle : q ≤ l.length := HQJ.out.2
                  have hqx : (q : Int) ≤ 1000000 := by omega
                  have hor : (l.length ≤ q) ∨ (q < l.length ∧ byI l q ≠ 32) := by
                    rcases Nat.lt_or_ge q l.length with h | h
                    · refine .inr ⟨h, fun e => hsp ⟨h, ?_⟩⟩
                      unfold byI at e
                      exact UInt8.toNat_inj.1 (by rw [show (32 : UInt8).toNat = 32 from rfl]; omega)
                    · exact .inl h
                  have HN2 := Lib.hid (nosp_of hor)
                  clear hsp HQ
                  have hd5 : dz.length ≤ 5 := HZ.out.2.1
                  have hdc : ((0 : Int) < (dz.length : Int) ∧ (dz.length : Int) < 5 ∧ 0 < dz.length ∧ dz.length < 5) ∨ ((dz.length : Int) = 0 ∧ dz.length = 0) ∨ ((dz.length : Int) = 5 ∧ dz.length = 5 ∧ decide ((dz.length : Int) < 5) = false) := by
                    by_cases h0 : dz.length = 0
                    · right; left; exact ⟨by omega, h0⟩
                    · by_cases h5 : dz.length = 5
                      · right; right; exact ⟨by omega, h5, decide_eq_false (by omega)⟩
                      · left; omega
                  rcases hor with hge | ⟨hlt, hby⟩
                  · have hde : decide (q < l.length) = false := decide_eq_false (by omega)
                    have hde2 : decide ((q : Int) < (l.length : Int)) = false := decide_eq_false (by omega)
                    have hge2 : (l.length : Int) ≤ (q : Int) := by omega
                    rcases hdc with ⟨g1, g2, g3, g4⟩ | ⟨g1, g2⟩ | ⟨g1, g2, g3⟩
                    · have HG := Lib.hid (⟨g3, g4⟩ : _ ∧ _)
                      go_wp2_with fail
                      go_ret3
                      exact ⟨val dz, q, true, rfl, HQT.out, HQJ.out.2, val_le5 _ HZ.out.1 HZ.out.2.1, placeF_of HR1.out HN1.out HZ.out.2.2 HZ.out.1 HZ.out.2.1 HND.out HQ1.out HN2.out (by have := HG.out; simp; omega)⟩
                    · have hdz : dz = [] := List.length_eq_zero_iff.1 g2
                      subst hdz
                      clear g1 g2
                      go_wp2_with fail
                      go_ret3
                      exact ⟨val [], q, false, rfl, HQT.out, HQJ.out.2, val_le5 _ HZ.out.1 HZ.out.2.1, placeF_of HR1.out HN1.out HZ.out.2.2 HZ.out.1 HZ.out.2.1 HND.out HQ1.out HN2.out (by simp)⟩
                    · have HG5 := Lib.hid g2
                      go_wp2_with fail
                      go_ret3
                      exact ⟨val dz, q, false, rfl, HQT.out, HQJ.out.2, val_le5 _ HZ.out.1 HZ.out.2.1, placeF_of HR1.out HN1.out HZ.out.2.2 HZ.out.1 HZ.out.2.1 HND.out HQ1.out HN2.out (by have := HG5.out; simp; omega)⟩
                  · have hlt2 : (q : Int) < (l.length : Int) := by omega
                    have hbe : (byI l q == 32) = false := beq_eq_false_iff_ne.2 hby
                    have hbe2 : decide (byI l q = 32) = false := decide_eq_false hby
                    rcases hdc with ⟨g1, g2, g3, g4⟩ | ⟨g1, g2⟩ | ⟨g1, g2, g3⟩
                    · have HG := Lib.hid (⟨g3, g4⟩ : _ ∧ _)
                      go_wp2_with fail
                      go_ret3
                      exact ⟨val dz, q, true, rfl, HQT.out, HQJ.out.2, val_le5 _ HZ.out.1 HZ.out.2.1, placeF_of HR1.out HN1.out HZ.out.2.2 HZ.out.1 HZ.out.2.1 HND.out HQ1.out HN2.out (by have := HG.out; simp; omega)⟩
                    · have hdz : dz = [] := List.length_eq_zero_iff.1 g2
                      subst hdz
                      clear g1 g2
                      go_wp2_with fail
                      go_ret3
                      exact ⟨val [], q, false, rfl, HQT.out, HQJ.out.2, val_le5 _ HZ.out.1 HZ.out.2.1, placeF_of HR1.out HN1.out HZ.out.2.2 HZ.out.1 HZ.out.2.1 HND.out HQ1.out HN2.out (by simp)⟩
                    · have HG5 := Lib.hid g2
                      go_wp2_with fail
                      go_ret3
                      exact ⟨val dz, q, false, rfl, HQT.out, HQJ.out.2, val_le5 _ HZ.out.1 HZ.out.2.1, placeF_of HR1.out HN1.out HZ.out.2.2 HZ.out.1 HZ.out.2.1 HND.out HQ1.out HN2.out (by have := HG5.out; simp; omega)⟩

end Go.Proofs.YtcolffccbmpndaaGreatDoor
