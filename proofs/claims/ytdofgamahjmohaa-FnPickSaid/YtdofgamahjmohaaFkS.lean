/- (*spec.Plan).Pick, walked. -/
import Derived.Test.YtdofgamahjmohaaFkQ
import Derived.Test.YtdofgamahjmohaaFkR
import Derived.WalkLawsBesides
import Derived.BigQuiet
import Derived.Deep.RegionHeld3
import Derived.BigRegion
namespace Go.Proofs.Ytdofgamahjmohaa
open Go.RowKit Go.Deep
set_option maxRecDepth 100000

theorem ins_app1 {wv wz : World} {og oc m k d r : Nat} {out : List PrD} {x : PrD} {A : Addr} (h : Own wv wz 84 3 (.slice (some ⟨og, 0, none⟩) m oc) m (out.flatMap sC)) (hm : m = out.length) (hk : k ≤ m) (hr0 : r = m - k) (h7 : m ≤ 7) (hA : k < m → A = ⟨og, k * 3, none⟩) :
    ∃ v' w', (Builtin.append_ #[50, 50] 50 #[.slice (some ⟨wz.heap.size, 0, none⟩) 1 1, .slice (some A) r d]).run Try.prog (wz.drew.alloc (.cells #[.int .i64 x.lvl, .float .f64 x.sc, .float .f64 x.adj] 84)) = .ok v' w' ∧ ∃ g1 c1, v' = .slice (some ⟨g1, 0, none⟩) (1 + r) c1 ∧ Own wv w' 84 3 (.slice (some ⟨g1, 0, none⟩) (1 + r) c1) (1 + r) (sC x ++ (out.drop k).flatMap sC) ∧ Own wv w' 84 3 (.slice (some ⟨og, 0, none⟩) m oc) m (out.flatMap sC) ∧ Tch [] wz w' := by
  obtain ⟨i0, hinf, hz0, hz1, hz2⟩ := info_parts Try.infoPri
  have h0 := heap_alloc_new wz.drew (.cells #[.int .i64 x.lvl, .float .f64 x.sc, .float .f64 x.adj] 84)
  have e0 : wz.drew.heap.size = wz.heap.size := by simp
  rw [e0] at h0
  have t1 : Tch [] wz (wz.drew.alloc (.cells #[.int .i64 x.lvl, .float .f64 x.sc, .float .f64 x.adj] 84)) := (Tch.refl _ _).drew.alloc _
  have hx : Own wv (wz.drew.alloc (.cells #[.int .i64 x.lvl, .float .f64 x.sc, .float .f64 x.adj] 84)) 84 3 (.slice (some ⟨wz.heap.size, 0, none⟩) 1 1) 1 (sC x) :=
    ⟨h.t.trans t1, rfl, .inr ⟨wz.heap.size, 1, _, rfl, h.t.size, h0, Nat.le_refl _, by unfold maxLen; omega, rfl, rfl⟩⟩
  have hr := (h.tch t1)
  obtain ⟨v', w', hrun, ho, ht⟩ := own_apps (ty := 50) Try.underlying50 hinf hz0 hz1 hz2 rfl (by decide) (by decide) A r d ((out.drop k).flatMap sC) hx (by omega) (by rw [flatC_len, List.length_drop]; omega) (fun j u hu => by
    have hj : j < r * 3 := by
      have := (List.getElem?_eq_some_iff.1 hu).1
      rw [flatC_len, List.length_drop] at this
      omega
    rw [hA (by omega)]
    have e1 : (⟨og, k * 3, none⟩ : Addr).add j = ⟨og, k * 3 + j, none⟩ := by unfold Addr.add; split <;> simp_all
    rw [e1, hr.row.cellAt (k * 3 + j) (by omega)]
    have e2 : out.flatMap sC = (out.take k).flatMap sC ++ (out.drop k).flatMap sC := by rw [← List.flatMap_append, List.take_append_drop]
    rw [e2, List.getElem?_append_right (by rw [flatC_len, List.length_take]; omega), flatC_len, List.length_take, Nat.min_eq_left (by omega)]
    rw [← hu]
    congr 1
    omega) (by
    intro u hu
    obtain ⟨y, -, hy⟩ := List.mem_flatMap.1 hu
    simp [sC] at hy
    rcases hy with rfl | rfl | rfl <;> rfl)
  obtain ⟨g1, c1, e, -⟩ := ownsRow_value ho.row (by omega)
  subst e
  refine ⟨_, w', hrun, g1, c1, rfl, ho, ⟨ho.t, ownsRow_tch hr.row ht (fun g hg hm2 => ?_)⟩, tch_new t1 ht (fun g hg => by simp [Value.ownBlock] at hg; omega)⟩
  have h1 := (h.row.lt g hg).2
  simp [Value.ownBlock] at hm2
  omega
theorem ins_app2 {wv w5 : World} {og oc m k g1 c1 r : Nat} {out : List PrD} {x : PrD} (h1 : Own wv w5 84 3 (.slice (some ⟨g1, 0, none⟩) (1 + r) c1) (1 + r) (sC x ++ (out.drop k).flatMap sC)) (h : Own wv w5 84 3 (.slice (some ⟨og, 0, none⟩) m oc) m (out.flatMap sC)) (hm : m = out.length) (hk : k ≤ m) (hr0 : r = m - k) (h7 : m ≤ 7) :
    ∃ v' w', (Builtin.append_ #[50, 50] 50 #[.slice (some ⟨og, 0, none⟩) k oc, .slice (some ⟨g1, 0, none⟩) (1 + r) c1]).run Try.prog w5 = .ok v' w' ∧ ∃ g2 c2, v' = .slice (some ⟨g2, 0, none⟩) (m + 1) c2 ∧ Own wv w' 84 3 (.slice (some ⟨g2, 0, none⟩) (m + 1) c2) (m + 1) ((out.take k ++ x :: out.drop k).flatMap sC) ∧ Tch [og] w5 w' := by
  obtain ⟨i0, hinf, hz0, hz1, hz2⟩ := info_parts Try.infoPri
  obtain ⟨v', w', hrun, ho, ht⟩ := own_apps (ty := 50) Try.underlying50 hinf hz0 hz1 hz2 rfl (by decide) (by decide) ⟨g1, 0, none⟩ (1 + r) c1 (sC x ++ (out.drop k).flatMap sC) (own_pre h hk) (by omega) h1.row.1 (fun j u hu => by
    have e1 : (⟨g1, 0, none⟩ : Addr).add j = ⟨g1, j, none⟩ := by unfold Addr.add; split <;> simp_all
    have hj := (List.getElem?_eq_some_iff.1 hu).1
    rw [h1.row.1] at hj
    rw [e1, h1.row.cellAt j hj]
    exact hu) (by
    intro u hu
    rcases List.mem_append.1 hu with hu | hu
    · simp [sC] at hu
      rcases hu with rfl | rfl | rfl <;> rfl
    · obtain ⟨y, -, hy⟩ := List.mem_flatMap.1 hu
      simp [sC] at hy
      rcases hy with rfl | rfl | rfl <;> rfl)
  have e2 : k + (1 + r) = m + 1 := by omega
  have e3 : (out.flatMap sC).take (k * 3) ++ (sC x ++ (out.drop k).flatMap sC) = (out.take k ++ x :: out.drop k).flatMap sC := by
    rw [List.flatMap_append, List.flatMap_cons]
    congr 1
    have e4 : out.flatMap sC = (out.take k).flatMap sC ++ (out.drop k).flatMap sC := by rw [← List.flatMap_append, List.take_append_drop]
    rw [e4, List.take_append_of_le_length (by rw [flatC_len, List.length_take]; omega), List.take_of_length_le (by rw [flatC_len, List.length_take]; omega)]
  rw [e2, e3] at ho
  obtain ⟨g2, c2, e, -⟩ := ownsRow_value ho.row (by omega)
  subst e
  exact ⟨_, w', hrun, g2, c2, rfl, ho, by simpa [Value.ownBlock] using ht⟩

set_option maxHeartbeats 8000000 in
theorem planPick_any (LL : List (List Tb)) (la : Option Addr) (lc : Nat) (o : Op) (b : Nat) (fv : Value) (ra : Option Addr) (rc : Nat) (rs : List (Option (Nat × Int × Nat))) (sd : Bool) (gp : Nat) (w : World) (hp : PlanAt w gp la LL.length lc o b fv ra rs.length rc sd) (hl : LvAt w LL la lc) (hv : Valid LL o) (hr : RunAt w ra rs) (hrl : rs.length ≤ 100) (hrs : ∀ l s g, some (l, s, g) ∈ rs → 0 ≤ s ∧ s ≤ 1099511627776) (hb : 1 ≤ b ∧ b < LL.length) :
    Calls Try.prog 22 #[ptr gp] w fun e w' => ∃ a c, e = .returned (.tuple #[.slice a (insAll (pickL (scoreD LL o (dOf rs)) b LL.length) []).1.length c, .bool (insAll (pickL (scoreD LL o (dOf rs)) b LL.length) []).2]) ∧ Own w w' 84 3 (.slice a (insAll (pickL (scoreD LL o (dOf rs)) b LL.length) []).1.length c) (insAll (pickL (scoreD LL o (dOf rs)) b LL.length) []).1.length ((insAll (pickL (scoreD LL o (dOf rs)) b LL.length) []).1.flatMap sC) := by
  have n2 := hv.op.n2
  have n7 := hv.op.n7
  have HV := Lib.hid hv
  have HPL := Lib.hid (fun w' (t : Tch [] w w') => hp.tch t)
  have HLV := Lib.hid (fun w' (t : Tch [] w w') => hl.tch t)
  have HRN := Lib.hid (fun w' (t : Tch [] w w') => hr.tch t)
  have HRL := Lib.hid hrl
  have HRS := Lib.hid hrs
  have HB := Lib.hid hb
  have HDB := Lib.hid (fun i k (hk : k ≤ rs.length) => dOf_bound (B := 1099511627776) (by omega) hrs i k hk)
  have HSZ := Lib.hid (fun w' (t : Tch [] w w') => spec_Sizes_any LL la lc o w' (hl.tch t) hv)
  have hnI : (LL.length : Int) ≤ 7 := by omega
  have hrI : (rs.length : Int) ≤ 100 := by omega
  have HN2 := Lib.hid n2
  have HN7 := Lib.hid n7
  obtain ⟨i0, hinf, hz0, hz1, hz2⟩ := info_parts Try.infoPri
  have HAP := Lib.hid (fun (w0 wr : World) (v : Value) (n : Nat) (xs : List Value) (x : PrD) (h : Own w0 wr 84 3 v n xs) (hn : n ≤ 100000000) => own_app (ty := 50) Try.underlying50 hinf hz0 hz1 hz2 rfl (by decide) (by decide) #[.int .i64 x.lvl, .float .f64 x.sc, .float .f64 x.adj] h hn rfl (by intro y hy; simp only [List.mem_cons, List.not_mem_nil, or_false] at hy; rcases hy with rfl | rfl | rfl <;> rfl))
  clear hinf hz0 hz1 hz2 hp hl hv hr hrl hrs hb n2 n7
  obtain ⟨lv, lt, tt, zt, bl, bt, mt, di⟩ := o
  have HSC : Hid (∀ i, i < LL.length → Num (scoreD LL ⟨lv, lt, tt, zt, bl, bt, mt, di⟩ (dOf rs) i)) := Lib.hid (scoreD_num HV.out (fun i hi => by
    have h := HDB.out i rs.length (Nat.le_refl _)
    rw [List.take_length] at h
    have := HRL.out
    omega))
  obtain ⟨sc, hsc⟩ : ∃ sc, sc = scoreD LL ⟨lv, lt, tt, zt, bl, bt, mt, di⟩ (dOf rs) := ⟨_, rfl⟩
  have HSE := Lib.hid hsc
  rw [← hsc] at HSC ⊢
  clear hsc
  have HPC : Hid (∀ w', Tch [] w w' → (w'.cell? ⟨gp, 0, none⟩ = some (.slice la LL.length lc) ∧ w'.cell? ⟨gp, 1, none⟩ = some (.int .i64 lv) ∧ w'.cell? ⟨gp, 2, none⟩ = some (.int .i64 lt) ∧ w'.cell? ⟨gp, 3, none⟩ = some (.int .i64 tt) ∧ w'.cell? ⟨gp, 4, none⟩ = some (.int .i64 zt) ∧ w'.cell? ⟨gp, 5, none⟩ = some (.int .i64 bl) ∧ w'.cell? ⟨gp, 6, none⟩ = some (.int .i64 bt) ∧ w'.cell? ⟨gp, 7, none⟩ = some (.int .i64 mt) ∧ w'.cell? ⟨gp, 8, none⟩ = some (.int .u64 di)) ∧ w'.cell? ⟨gp, 9, none⟩ = some (.int .i64 b) ∧ w'.cell? ⟨gp, 11, none⟩ = some (.slice ra rs.length rc)) := Lib.hid (fun w' t => by
    have h := HPL.out w' t
    exact ⟨⟨h.cell 0 _ rfl, h.cell 1 _ rfl, h.cell 2 _ rfl, h.cell 3 _ rfl, h.cell 4 _ rfl, h.cell 5 _ rfl, h.cell 6 _ rfl, h.cell 7 _ rfl, h.cell 8 _ rfl⟩, h.cell 9 _ rfl, h.cell 11 _ rfl⟩)
  clear HPL
  obtain ⟨⟨p0, p1, p2, p3, p4, p5, p6, p7, p8⟩, p9, p11⟩ := HPC.out w (Tch.refl _ _)
  go_enter Try.func22, Try.ntmps22
  go_upto_region 1 with fail
  go_cut [4] from 19 to 27 (fun s4 wx => ∃ g : Nat, s4 = .slice (some ⟨g, 0, none⟩) LL.length LL.length ∧ Hid (IAt wx ((List.range LL.length).map (tgs LL ⟨lv, lt, tt, zt, bl, bt, mt, di⟩)) (some ⟨g, 0, none⟩) ∧ Tch [] w wx))
  case first =>
    have H0 := Lib.hid (Tch.refl [] w)
    go_region_held3 (fun w' => w'.cell? ⟨gp, 0, none⟩ = some (.slice la LL.length lc) ∧ w'.cell? ⟨gp, 1, none⟩ = some (.int .i64 lv) ∧ w'.cell? ⟨gp, 2, none⟩ = some (.int .i64 lt) ∧ w'.cell? ⟨gp, 3, none⟩ = some (.int .i64 tt) ∧ w'.cell? ⟨gp, 4, none⟩ = some (.int .i64 zt) ∧ w'.cell? ⟨gp, 5, none⟩ = some (.int .i64 bl) ∧ w'.cell? ⟨gp, 6, none⟩ = some (.int .i64 bt) ∧ w'.cell? ⟨gp, 7, none⟩ = some (.int .i64 mt) ∧ w'.cell? ⟨gp, 8, none⟩ = some (.int .u64 di)) (go_keep)
      (first
        | (go_at_call 34; (with_reducible refine (HSZ.out _ ?_).mono ?_); (repeat (first | exact Tch.refl _ _ | exact Hid.out (by assumption) | refine Tch.drew ?_ | refine Tch.alloc ?_ _)); rintro e w5 ⟨g, rfl, q1, q2⟩
           have HI5 := Lib.hid q1
           have T5 : Hid (Tch [] w w5) := Tch.trans (by (repeat (first | exact Tch.refl _ _ | exact Hid.out (by assumption) | refine Tch.drew ?_ | refine Tch.alloc ?_ _))) q2
           clear q1 q2 p0 p1 p2 p3 p4 p5 p6 p7 p8 p9 p11
           obtain ⟨⟨p0, p1, p2, p3, p4, p5, p6, p7, p8⟩, p9, p11⟩ := HPC.out w5 T5.out))
    all_goals
      go_wp2_with fail
      go_meet
      exact ⟨g, rfl, Lib.hid ⟨HI5.out, T5.out⟩⟩
  case rest =>
    obtain ⟨gz, rfl, HZ0⟩ := hcut
    rename World => w1
    clear HSZ p0 p1 p2 p3 p4 p5 p6 p7 p8 p9 p11
    obtain ⟨⟨p0, p1, p2, p3, p4, p5, p6, p7, p8⟩, p9, p11⟩ := HPC.out (w1.alloc (.cells #[] 84)) (HZ0.out.2.alloc _)
    have HO0 := Lib.hid (Own.new (Tch.refl [] w1) 84 3)
    go_wp2_with fail
    go_loopg [5, 34] LL.length (fun nn s5 s34 wr => ∃ (i : Nat) (a : Option Addr) (c : Nat), i ≤ LL.length ∧ nn = LL.length - i ∧ s5 = .slice a i c ∧ s34 = .int .i64 i ∧ Hid (Own w1 wr 84 3 (.slice a i c) i (((List.range i).map (fun j => PrD.mk j (sc j) (sc j))).flatMap sC)))
    case atStart => exact ⟨0, _, 0, Nat.zero_le _, rfl, rfl, rfl, HO0⟩
    case round =>
      obtain ⟨i, a, c, hi, rfl, rfl, rfl, HZ⟩ := hrel
      rename World => wr
      clear p0 p1 p2 p3 p4 p5 p6 p7 p8 p9 p11
      obtain ⟨⟨p0, p1, p2, p3, p4, p5, p6, p7, p8⟩, p9, p11⟩ := HPC.out wr (HZ0.out.2.trans HZ.out.t)
      by_cases hlt : i < LL.length
      · have HLT := Lib.hid hlt
        have hlt2 : (i : Int) < (LL.length : Int) := by omega
        obtain ⟨ad, rfl⟩ : ∃ ad, la = some ad := by
          cases la with
          | none => have := ((HLV.out wr (HZ0.out.2.trans HZ.out.t)).nil rfl).2; rw [this] at hlt; simp at hlt
          | some ad => exact ⟨ad, rfl⟩
        obtain ⟨-, ta, tc, hc, hT⟩ := (HLV.out wr (HZ0.out.2.trans HZ.out.t)).at' ad rfl i hlt
        have HTA := Lib.hid hT
        have hq0 := (score0_some HV.out hlt).1
        have hlen30 : ((LL.getD i []).length : Int) ≤ 30 := by
          have := HV.out.few _ (show LL.getD i [] ∈ LL by simp [List.getD, List.getElem?_eq_getElem hlt])
          omega
        have HTOT := Lib.hid (spec_total_any (LL.getD i []) ta tc wr hT (HV.out.few _ (by simp [List.getD, List.getElem?_eq_getElem hlt])) (HV.out.fine _ (by simp [List.getD, List.getElem?_eq_getElem hlt])))
        have HS0 : Hid (i = 0 → sc i = quoW (fI ((LL.getD i []).length : Nat)) (fI zt)) := Lib.hid (fun h => by rw [HSE.out]; unfold scoreD; rw [if_pos h, h])
        generalize hts : LL.getD i [] = ts at *
        have HTS := Lib.hid hts
        generalize quoW (fI (ts.length : Nat)) (fI zt) = q0 at *
        have hr0 : ∀ (t : TypeId) (w : World), (binOp .quo t (.float .f64 (floatOfInt .f64 (ts.length : Nat))) (.float .f64 (floatOfInt .f64 zt))).run Try.prog w = .ok (.float .f64 q0) w := fun t w => run_float_arith w .quo t .f64 _ _ _ hq0
        clear hT hq0 hlt hi hts
        by_cases hi0 : i = 0
        · have HS1 := Lib.hid (HS0.out hi0)
          have hi1 : decide ((0 : Int) < (i : Int)) = false := decide_eq_false (by omega)
          have hi2 : (i : Int) ≤ 0 := by omega
          have HA := Lib.hid (HAP.out w1 wr (.slice a i c) i _ ⟨i, sc i, sc i⟩ HZ.out (by have := HLT.out; have := HN7.out; omega))
          rw [HS1.out] at HA
          clear hi0
          go_wp2_with (at_builtin; refine wpList_append_run rfl (.tmp 87) (.tmp 92) 50 rfl (.slice a i c) (.slice (some ⟨wr.heap.size, 0, none⟩) 1 1) (by simp [Act.eval]) (by simp [Act.eval]) _ HA.out ?_; rintro vv w7 ⟨g7, c7, rfl, n1, n2, n3, n4, n5⟩; have HN1 := Lib.hid n1; clear n1 n2 n3 n4 n5)
          go_roundg (LL.length - (i + 1))
          case rel => exact ⟨i + 1, _, _, HLT.out, rfl, rfl, by go_num, Lib.hid (by rw [prio0_succ, HS1.out]; exact HN1.out)⟩
          case measure => have := HLT.out; omega
        · have HI1 : Hid (1 ≤ i) := Lib.hid (by omega)
          have hi1 : (0 : Int) < (i : Int) := by omega
          clear hi0
          go_wp2_with fail
          refine HTOT.out.mono ?_
          rintro e w5 ⟨rfl, t5⟩
          have HT5 := Lib.hid t5
          have HW5 := Lib.hid (HZ0.out.2.trans (HZ.out.t.trans t5))
          have hzs : szs LL i = tsum Tb.bytes ts := by unfold szs; rw [HTS.out]
          have hzb := szs_bound HV.out HLT.out
          rw [hzs] at hzb
          have HZS := Lib.hid hzs
          generalize tsum Tb.bytes ts = Z at *
          have hz1 : 0 ≤ Z := hzb.1
          have hz2 : Z ≤ 1125899906842624 := hzb.2.1
          clear t5 hzs hzb p0 p1 p2 p3 p4 p5 p6 p7 p8 p9 p11
          obtain ⟨⟨p0, p1, p2, p3, p4, p5, p6, p7, p8⟩, p9, p11⟩ := HPC.out w5 HW5.out
          go_wp2_with fail
          go_loopg [9, 58] rs.length (fun nn s9 s58 wv => ∃ k : Nat, k ≤ rs.length ∧ nn = rs.length - k ∧ s9 = .int .i64 (Z - dOf (rs.take k) i) ∧ s58 = .int .i64 k ∧ Hid (wv = w5))
          case atStart => exact ⟨0, Nat.zero_le _, rfl, by simp [dOf], rfl, Lib.hid rfl⟩
          case round =>
            obtain ⟨k, hk, rfl, rfl, rfl, HY⟩ := hrel
            rename World => wv
            obtain rfl := HY.out
            have hd := HDB.out i k hk
            have HDS := Lib.hid (fun h => dOf_succ (rs := rs) (k := k) h i)
            generalize hde : dOf (rs.take k) i = d at *
            have HDQ := Lib.hid hde
            clear hde
            have hd1 : 0 ≤ d := hd.1
            have hd2 : d ≤ 109951162777600 := by have := hd.2; have := HRL.out; omega
            clear hd
            by_cases hkl : k < rs.length
            · have HKL := Lib.hid hkl
              have hkl2 : (k : Int) < (rs.length : Int) := by omega
              obtain ⟨ad2, rfl, hr1⟩ := HRN.out wv HW5.out k hkl
              have hds := HDS.out hkl
              have HRK := Lib.hid (fun l s g => HRS.out l s g)
              generalize hrk : rs[k] = r at *
              cases r with
              | none =>
                unfold RunAt1 at hr1
                simp only [] at hr1 hds
                have HDE := Lib.hid hds
                clear hkl hk hds hrk
                go_wp2_with fail
                go_roundg (rs.length - (k + 1))
                case rel => exact ⟨k + 1, HKL.out, rfl, by rw [HDE.out]; simp, by go_num, Lib.hid rfl⟩
                case measure => have := HKL.out; omega
              | some q =>
                obtain ⟨l, sz, g⟩ := q
                have hsb := HRK.out l sz g (by rw [← hrk]; exact List.getElem_mem hkl)
                unfold RunAt1 at hr1
                simp only [] at hr1 hds
                obtain ⟨r0, r1, r2⟩ := hr1
                have HDE := Lib.hid hds
                have hs1 : 0 ≤ sz := hsb.1
                have hs2 : sz ≤ 1099511627776 := hsb.2
                clear hkl hk hds hrk hsb
                by_cases hli : l = i
                · have e1 : ((l : Int) == (i : Int)) = true := beq_iff_eq.2 (by omega)
                  have HLI := Lib.hid hli
                  clear hli
                  go_wp2_with fail
                  go_roundg (rs.length - (k + 1))
                  case rel => exact ⟨k + 1, HKL.out, rfl, by rw [HDE.out, if_pos HLI.out]; congr 1; omega, by go_num, Lib.hid rfl⟩
                  case measure => have := HKL.out; omega
                · have e1 : ((l : Int) == (i : Int)) = false := beq_eq_false_iff_ne.2 (by omega)
                  have HLI := Lib.hid hli
                  clear hli
                  go_wp2_with fail
                  go_roundg (rs.length - (k + 1))
                  case rel => exact ⟨k + 1, HKL.out, rfl, by rw [HDE.out, if_neg HLI.out]; simp, by go_num, Lib.hid rfl⟩
                  case measure => have := HKL.out; omega
            · obtain rfl : k = rs.length := by omega
              clear hkl hk
              have hdr : dOf (rs.take rs.length) i = dOf rs i := by rw [List.take_length]
              have HQ := Lib.hid (scoreI_some HV.out HI1.out HLT.out (d := dOf rs i) (by
                have h := HDB.out i rs.length (Nat.le_refl _)
                rw [hdr] at h
                have := HRL.out
                omega))
              have HSX : Hid (sc i = quoW (fI (szs LL i - dOf rs i)) (fI (tgs LL ⟨lv, lt, tt, zt, bl, bt, mt, di⟩ i))) := Lib.hid (by rw [HSE.out]; unfold scoreD; rw [if_neg (by have := HI1.out; omega)])
              have HDD : Hid (dOf rs i = d) := Lib.hid (by rw [← hdr]; exact HDQ.out)
              have hq := HQ.out.1
              have hsx := HSX.out
              rw [HZS.out, HDD.out] at hq hsx
              have hcell : wv.cell? ⟨gz, i, none⟩ = some (.int .i64 (tgs LL ⟨lv, lt, tt, zt, bl, bt, mt, di⟩ i)) := by
                have h := ((HZ0.out.1.tch (HZ.out.t.trans HT5.out)).cell _ rfl i (by simpa using HLT.out)).2
                rw [add0] at h
                have e2 : ((List.range LL.length).map (tgs LL ⟨lv, lt, tt, zt, bl, bt, mt, di⟩)).getD i 0 = tgs LL ⟨lv, lt, tt, zt, bl, bt, mt, di⟩ i := by simp [List.getD, HLT.out]
                rw [e2] at h
                exact h
              generalize tgs LL ⟨lv, lt, tt, zt, bl, bt, mt, di⟩ i = tv at hq hsx hcell
              generalize quoW (fI (Z - d)) (fI tv) = q1 at hq hsx
              have HSX2 := Lib.hid hsx
              have hr1 : ∀ (t : TypeId) (w : World), (binOp .quo t (.float .f64 (floatOfInt .f64 (Z - d))) (.float .f64 (floatOfInt .f64 tv))).run Try.prog w = .ok (.float .f64 q1) w := fun t w => run_float_arith w .quo t .f64 _ _ _ hq
              have HA := Lib.hid (HAP.out w1 wv (.slice a i c) i _ ⟨i, q1, q1⟩ (HZ.out.tch HT5.out) (by have := HLT.out; have := HN7.out; omega))
              clear hdr hq hsx HSX HQ
              go_wp2_with (at_builtin; refine wpList_append_run rfl (.tmp 87) (.tmp 92) 50 rfl (.slice a i c) (.slice (some ⟨wv.heap.size, 0, none⟩) 1 1) (by simp [Act.eval]) (by simp [Act.eval]) _ HA.out ?_; rintro vv w7 ⟨g7, c7, rfl, n1, n2, n3, n4, n5⟩; have HN1 := Lib.hid n1; clear n1 n2 n3 n4 n5)
              go_roundg (LL.length - (i + 1))
              case rel => exact ⟨i + 1, _, _, HLT.out, rfl, rfl, by go_num, Lib.hid (by rw [prio0_succ, HSX2.out]; exact HN1.out)⟩
              case measure => have := HLT.out; omega
      · obtain rfl : i = LL.length := by omega
        clear hlt hi
        have HP0 : Hid (Own w1 wr 84 3 (.slice a LL.length c) LL.length ((prL sc b b LL.length).flatMap sC)) := Lib.hid (by
          have e : prL sc b b LL.length = (List.range LL.length).map (fun j => PrD.mk j (sc j) (sc j)) := by
            unfold prL
            apply List.map_congr_left
            intro j _
            rw [adjAt_start]
          rw [e]
          exact HZ.out)
        clear HZ
        have hbn : b < LL.length := HB.out.2
        have hb1 : 1 ≤ b := HB.out.1
        have hbI : (b : Int) ≤ 7 := by omega
        have HBN := Lib.hid (⟨hb1, hbn⟩ : 1 ≤ b ∧ b < LL.length)
        clear hbn hb1
        go_wp2_with fail
        go_loopg [12, 13] (LL.length - b) (fun nn s12 s13 wr => ∃ i : Nat, b ≤ i ∧ i ≤ LL.length ∧ nn = LL.length - i ∧ s12 = .int .i64 (befo b i) ∧ s13 = .int .i64 i ∧ Hid (Own w1 wr 84 3 (.slice a LL.length c) LL.length ((prL sc b i LL.length).flatMap sC)))
        case atStart => exact ⟨b, Nat.le_refl _, by have := HBN.out.2; omega, rfl, by unfold befo; rw [if_pos rfl]; rfl, rfl, HP0⟩
        case round =>
          obtain ⟨i, hbi, hi, rfl, rfl, rfl, HZ⟩ := hrel
          rename World => wv
          clear p0 p1 p2 p3 p4 p5 p6 p7 p8 p9 p11
          by_cases hlt : i < LL.length
          · have HLT := Lib.hid (⟨hbi, hlt⟩ : b ≤ i ∧ i < LL.length)
            have hlt2 : (i : Int) < (LL.length : Int) := by omega
            have hbf : befo b i < i := by have := HBN.out.1; unfold befo; split <;> omega
            obtain ⟨g, rfl, hrow⟩ := pr_at HZ.out (by have := HN2.out; omega)
            have x2 := hrow (befo b i) (by omega) 2 (by omega)
            have y1 := hrow i hlt 1 (by omega)
            have y2 := hrow i hlt 2 (by omega)
            rw [prL_get sc b i (by omega)] at x2
            rw [prL_get sc b i hlt] at y1 y2
            rw [adjAt_before sc HBN.out.1 hbi] at x2
            rw [adjAt_here sc HBN.out.1 hbi] at y2
            simp only [sC, List.getElem?_cons_succ, List.getElem?_cons_zero] at x2 y1 y2
            have hbf2 : ((befo b i : Nat) : Int) < (LL.length : Int) := by omega
            have hone := adjOne_val (sc := sc) (j := befo b i) (i := i) (HSC.out _ (by omega)) (HSC.out _ hlt)
            have HST := Lib.hid (adjAt_step sc HBN.out.1 hbi)
            generalize hbe : befo b i = bf at *
            obtain ⟨r, hr1, hr2, hr3, hrv⟩ := hone
            have HR3 := Lib.hid hr3
            have HBI := Lib.hid hbi
            have HBE := Lib.hid hbe
            have hfz := own_froz (k := bf * 3 + 2) HZ.out
            have HSET := Lib.hid (own_set (k := bf * 3 + 2) (.float .f64 r) HZ.out)
            have HNX : Hid ((((prL sc b i LL.length).flatMap sC).set (bf * 3 + 2) (.float .f64 r)) = (prL sc b (i + 1) LL.length).flatMap sC) := Lib.hid (by rw [← hbe]; exact prL_set HBN.out.1 hbi hlt (by rw [hbe]; exact hr3))
            have HSAME : Hid (geW (sc bf) oneW = false → (prL sc b (i + 1) LL.length).flatMap sC = (prL sc b i LL.length).flatMap sC) := Lib.hid (fun h => by
              congr 1
              unfold prL
              apply List.map_congr_left
              intro j _
              rw [adjAt_step sc HBN.out.1 hbi j, hbe]
              split
              · rename_i hj
                rw [hj, hr3, hr2 h, ← hbe, adjAt_before sc HBN.out.1 hbi]
              · rfl)
            have HBS : Hid (befo b (i + 1) = i) := Lib.hid (befo_step hbi)
            have hga : (FloatKind.f64.format.order (sc bf) 4607182418800017408 == some .gt || FloatKind.f64.format.order (sc bf) 4607182418800017408 == some .eq) = geW (sc bf) oneW := rfl
            have hgb : (FloatKind.f64.format.order (sc i) 4576918229304087675 == some .gt || FloatKind.f64.format.order (sc i) 4576918229304087675 == some .eq) = geW (sc i) centW := rfl
            generalize hG : geW (sc bf) oneW = G at *
            generalize hC : geW (sc i) centW = C at *
            generalize sc bf = xb at *
            generalize sc i = xi at *
            clear hrow hbi hi hlt hG hC hr3 HST hbe
            cases G with
            | false =>
              have HS2 := Lib.hid (HSAME.out rfl)
              clear hr1 hr2 hgb
              go_wp2_with fail
              go_roundg (LL.length - (i + 1))
              case rel => exact ⟨i + 1, by have := HLT.out; omega, by have := HLT.out; omega, rfl, by rw [HBS.out], by go_num, Lib.hid (by rw [HS2.out]; exact HZ.out)⟩
              case measure => have := HLT.out; omega
            | true =>
              have hq := hr1 rfl
              clear HSAME hr1 hr2
              cases C with
              | true =>
                rw [if_pos rfl] at hq
                have hrq : ∀ (t : TypeId) (w : World), (binOp .quo t (.float .f64 xb) (.float .f64 xi)).run Try.prog w = .ok (.float .f64 r) w := fun t w => run_float_arith w .quo t .f64 _ _ _ hq
                have hsf := store_float
                clear hq
                go_wp2_with fail
                go_region
                all_goals
                  go_wp2_with fail
                  go_roundg (LL.length - (i + 1))
                  case rel => exact ⟨i + 1, by have := HLT.out; omega, by have := HLT.out; omega, rfl, by rw [HBS.out], by go_num, Lib.hid (by rw [← HNX.out]; exact HSET.out.tch (Tch.refl _ _).drew)⟩
                  case measure => have := HLT.out; omega
              | false =>
                rw [if_neg (by simp)] at hq
                have hrq : ∀ (t : TypeId) (w : World), (binOp .quo t (.float .f64 xb) (.float .f64 4576918229304087675)).run Try.prog w = .ok (.float .f64 r) w := fun t w => run_float_arith w .quo t .f64 _ _ _ hq
                have hsf := store_float
                clear hq
                go_wp2_with fail
                go_roundg (LL.length - (i + 1))
                case rel => exact ⟨i + 1, by have := HLT.out; omega, by have := HLT.out; omega, rfl, by rw [HBS.out], by go_num, Lib.hid (by rw [← HNX.out]; exact HSET.out)⟩
                case measure => have := HLT.out; omega
          · obtain rfl : i = LL.length := by omega
            clear hlt hi hbi
            obtain ⟨g, rfl, hrow⟩ := pr_at HZ.out (by have := HN2.out; omega)
            have HRW := Lib.hid hrow
            have hn1 : (0 : Int) < (LL.length : Int) := by have := HN2.out; omega
            have hn1' : (1 : Int) ≤ (LL.length : Int) := by omega
            have hcap : LL.length ≤ c := by
              rcases HZ.out.row.2 with ⟨e, -⟩ | ⟨g', cap, cur, e, -, -, hnc, -⟩
              · simp at e
              · simp at e; omega
            have hcap2 : (LL.length : Int) ≤ (c : Int) := by omega
            have hcap3 : (LL.length : Int) - 1 ≤ (c : Int) := by omega
            have HR0 := Lib.hid (Own.new (Tch.refl [] wv) 84 3)
            clear hrow hcap
            go_wp2_with fail
            obtain ⟨PL, hPL⟩ : ∃ PL, PL = prL sc b LL.length LL.length := ⟨_, rfl⟩
            have HPLE := Lib.hid hPL
            rw [← hPL] at HZ HRW
            have HPLL : Hid (PL.length = LL.length) := Lib.hid (by rw [hPL]; simp [prL])
            have HVAL : Hid (∀ x ∈ PL, Val x.adj ∧ Num x.sc) := Lib.hid (fun x hx => by
              rw [hPL] at hx
              obtain ⟨j, hj, rfl⟩ := List.mem_map.1 hx
              exact ⟨adjAt_val HSC.out HBN.out.2 (Nat.le_refl _) (List.mem_range.1 hj), HSC.out j (List.mem_range.1 hj)⟩)
            have HFIN : Hid (pickL sc b LL.length = (PL.take (LL.length - 1)).filter wants) := Lib.hid (by rw [hPL]; rfl)
            clear hPL
            go_loopg [14, 15, 146] (LL.length - 1) (fun nn s14 s15 s146 wq => ∃ (i m og oc : Nat) (cl : Bool), i ≤ LL.length - 1 ∧ nn = LL.length - 1 - i ∧ s14 = .slice (some ⟨og, 0, none⟩) m oc ∧ s15 = .bool cl ∧ s146 = .int .i64 i ∧ Hid (m = (insAll ((PL.take i).filter wants) []).1.length ∧ cl = (insAll ((PL.take i).filter wants) []).2 ∧ Own wv wq 84 3 (.slice (some ⟨og, 0, none⟩) m oc) m ((insAll ((PL.take i).filter wants) []).1.flatMap sC)))
            case atStart => exact ⟨0, 0, _, 0, true, Nat.zero_le _, rfl, rfl, rfl, rfl, Lib.hid ⟨rfl, rfl, HR0.out⟩⟩
            case round =>
              obtain ⟨i, m, og, oc, cl, hi, rfl, rfl, rfl, rfl, HY⟩ := hrel
              rename World => wq
              by_cases hlt : i < LL.length - 1
              · have HLI := Lib.hid hlt
                have hlt2 : (i : Int) < ((LL.length - 1 : Nat) : Int) := by omega
                have hAt := (HZ.out.tch HY.out.2.2.t)
                obtain ⟨g', eg, hrow⟩ := pr_at hAt (by have := HN2.out; omega)
                obtain rfl : g = g' := by simpa using eg
                have x0 := hrow i (by omega) 0 (by omega)
                have x1 := hrow i (by omega) 1 (by omega)
                have x2 := hrow i (by omega) 2 (by omega)
                have hilt : i < PL.length := by rw [HPLL.out]; omega
                have hgd : PL.getD i default = PL[i] := by simp [List.getD, List.getElem?_eq_getElem hilt]
                rw [hgd] at x0 x1 x2
                have hvn := HVAL.out PL[i] (List.getElem_mem hilt)
                have HTK : Hid ((PL.take (i + 1)).filter wants = (PL.take i).filter wants ++ if wants PL[i] = true then [PL[i]] else []) := Lib.hid (by
                  rw [List.take_succ_eq_append_getElem hilt, List.filter_append]
                  congr 1
                  rw [List.filter_cons]
                  rfl)
                generalize PL[i] = x at *
                obtain ⟨xl, xs, xa⟩ := x
                simp only [sC, List.getElem?_cons_succ, List.getElem?_cons_zero, Nat.add_zero] at x0 x1 x2
                simp only [] at hvn
                have hwl : (FloatKind.f64.format.order xs 4607182418800017408 == some .lt) = !geW xs oneW := ltW_V (.inl hvn.2) (.inl num_one)
                have HXV := Lib.hid hvn.1
                have HML : Hid (m ≤ 7) := Lib.hid (by
                  rw [HY.out.1, insAll_len]
                  have h1 := List.length_filter_le wants (PL.take i)
                  rw [List.length_take] at h1
                  have := HN7.out
                  simp
                  omega)
                have HXB := Lib.hid (heap_alloc_new wq (.cells #[.int .i64 xl, .float .f64 xs, .float .f64 xa] 84))
                have HYV : Hid (∀ y ∈ (insAll ((PL.take i).filter wants) []).1, Val y.adj) := Lib.hid (fun y hy => by
                  have h := (insAll_perm _ _).mem_iff.1 hy
                  rw [List.append_nil] at h
                  exact (HVAL.out y (List.mem_of_mem_take (List.mem_filter.1 h).1)).1)
                have HSN := Lib.hid (insAll_snoc ((PL.take i).filter wants) [] (⟨xl, xs, xa⟩ : PrD))
                have hwt : wants ⟨xl, xs, xa⟩ = geW xs oneW := rfl
                rw [hwt] at HTK
                generalize (PL.take i).filter wants = FL at *
                obtain ⟨out, hout⟩ : ∃ out, out = (insAll FL []).1 := ⟨_, rfl⟩
                have HOE := Lib.hid hout
                have HTKE := Lib.hid (HTK.out)
                generalize hG : geW xs oneW = G at *
                have hsf := store_float
                clear hrow hAt hilt hgd hvn hi hlt hG hwt hout
                cases G with
                | false =>
                  have HTK2 : Hid ((PL.take (i + 1)).filter wants = FL) := Lib.hid (by have h := HTK.out; simpa using h)
                  simp only [Bool.not_false] at hwl
                  go_wp2_with fail
                  go_roundg (LL.length - 1 - (i + 1))
                  case rel => exact ⟨i + 1, m, og, oc, cl, HLI.out, rfl, rfl, rfl, by go_num, Lib.hid (by rw [HTK2.out]; exact ⟨HY.out.1, HY.out.2.1, HY.out.2.2.tch ((Tch.refl _ _).alloc _)⟩)⟩
                  case measure => have := HLI.out; omega
                | true =>
                  have HTK2 : Hid ((PL.take (i + 1)).filter wants = FL ++ [⟨xl, xs, xa⟩]) := Lib.hid (by have h := HTK.out; simpa using h)
                  simp only [Bool.not_true] at hwl
                  have hwq := HXB.out
                  have HT1 := Lib.hid ((Tch.refl [] wq).alloc (.cells #[.int .i64 xl, .float .f64 xs, .float .f64 xa] 84))
                  have hmI : (m : Int) ≤ 7 := by have := HML.out; omega
                  have HOW : Hid (Own wv (wq.alloc (.cells #[.int .i64 xl, .float .f64 xs, .float .f64 xa] 84)) 84 3 (.slice (some ⟨og, 0, none⟩) m oc) m (out.flatMap sC) ∧ m = out.length ∧ cl = (insAll FL []).2 ∧ ∀ y ∈ out, Val y.adj) := Lib.hid ⟨by rw [HOE.out]; exact HY.out.2.2.tch HT1.out, by rw [HOE.out]; exact HY.out.1, HY.out.2.1, fun y hy => HYV.out y (by rw [← HOE.out]; exact hy)⟩
                  have HSN2 : Hid (insAll (FL ++ [⟨xl, xs, xa⟩]) [] = (insP out ⟨xl, xs, xa⟩, cl && insC out ⟨xl, xs, xa⟩)) := Lib.hid (by rw [HSN.out, ← HOE.out, ← HOW.out.2.2.1])
                  have HOG : Hid (og < wq.heap.size) := Lib.hid (HY.out.2.2.row.lt og rfl).2
                  clear hwq HY HYV HSN HOE HTK HTKE
                  go_wp2_with fail
                  clear x0 x1 x2
                  go_loopg [15, 18] m (fun nn s15 s18 wt => ∃ k : Nat, k ≤ m ∧ nn = m - k ∧ s15 = .bool (cl && (out.take k).all (fun y => !(Ieee.double.order y.adj xa == some .eq))) ∧ s18 = .int .i64 k ∧ Hid ((∃ q, wt = (wq.alloc (.cells #[.int .i64 xl, .float .f64 xs, .float .f64 xa] 84)).drewN q) ∧ ∀ j, j < k → geW (out.getD j default).adj xa = true))
                  case atStart => exact ⟨0, Nat.zero_le _, rfl, by simp, rfl, Lib.hid ⟨⟨0, rfl⟩, fun j hj => absurd hj (Nat.not_lt_zero j)⟩⟩
                  case round =>
                    obtain ⟨k, hk, rfl, rfl, rfl, HK⟩ := hrel
                    rename World => wt
                    have HTT : Hid (Tch [] (wq.alloc (.cells #[.int .i64 xl, .float .f64 xs, .float .f64 xa] 84)) wt) := Lib.hid (dq_tch HK.out.1)
                    have HXC := Lib.hid (fun w' (t : Tch [] wt w') => tt_cells ((HTT.out.trans t).obj HXB.out (by simp)))
                    obtain ⟨z0, z1, z2⟩ := HXC.out wt (Tch.refl _ _)
                    have hG : ∃ G', G' = (if k < m then geW (out.getD k default).adj xa else false) := ⟨_, rfl⟩
                    obtain ⟨G', hG'⟩ := hG
                    cases hgc : G' with
                    | true =>
                      rw [hgc] at hG'
                      have hkm : k < m := by
                        by_cases h : k < m
                        · exact h
                        · rw [if_neg h] at hG'; simp at hG'
                      rw [if_pos hkm] at hG'
                      have HKM := Lib.hid hkm
                      have hkm2 : (k : Int) < (m : Int) := by omega
                      obtain ⟨g2, eg2, hrow⟩ := pr_at (HOW.out.1.tch HTT.out) (by omega)
                      obtain rfl : og = g2 := by simpa using eg2
                      have y2 := hrow k hkm 2 (by omega)
                      have hko : k < out.length := by rw [← HOW.out.2.1]; exact hkm
                      have HALL : Hid ((out.take (k + 1)).all (fun y => !(Ieee.double.order y.adj xa == some .eq)) = ((out.take k).all (fun y => !(Ieee.double.order y.adj xa == some .eq)) && !(Ieee.double.order (out.getD k default).adj xa == some .eq))) := Lib.hid (by
                        rw [List.take_succ_eq_append_getElem hko, List.all_append]
                        simp [List.getD, List.getElem?_eq_getElem hko])
                      have HGE : Hid (geW (out.getD k default).adj xa = true) := Lib.hid hG'.symm
                      have HSTEP : Hid (∀ j, j < k + 1 → geW (out.getD j default).adj xa = true) := Lib.hid (fun j hj => by
                        by_cases e : j = k
                        · rw [e]; exact hG'.symm
                        · exact HK.out.2 j (by omega))
                      generalize out.getD k default = y at *
                      obtain ⟨yl, ys, ya⟩ := y
                      simp only [sC, List.getElem?_cons_succ, List.getElem?_cons_zero] at y2
                      have hga : (FloatKind.f64.format.order ya xa == some .gt || FloatKind.f64.format.order ya xa == some .eq) = true := HGE.out
                      obtain ⟨N, hN⟩ : ∃ N, N = !(Ieee.double.order ya xa == some .eq) := ⟨_, rfl⟩
                      have hnb : (FloatKind.f64.format.order ya xa != some .eq) = N := by rw [hN]; rfl
                      have HNE := Lib.hid hN
                      generalize hac : (cl && (out.take k).all (fun y => !(Ieee.double.order y.adj xa == some .eq))) = acc at *
                      have HAC := Lib.hid hac
                      clear hG' hgc hkm hrow hko hN hac hk
                      have HEQ : Hid ((acc && N) = (cl && (out.take (k + 1)).all (fun y => !(Ieee.double.order y.adj xa == some .eq)))) := Lib.hid (by rw [HALL.out, ← Bool.and_assoc, HAC.out, HNE.out])
                      clear HALL HAC HNE
                      cases acc with
                      | true =>
                        go_wp2_with fail
                        go_quiet (fail)
                        go_wp2_with fail
                        go_quiet (fail)
                        go_wp2_with fail
                        go_roundg (m - (k + 1))
                        case rel =>
                          refine ⟨k + 1, HKM.out, rfl, by rw [← HEQ.out]; simp, by go_num, Lib.hid ⟨by first | exact dq_add (dq_add HK.out.1 _) _ | exact dq_add HK.out.1 _ | exact HK.out.1, HSTEP.out⟩⟩
                        case measure => have := HKM.out; omega
                      | false =>
                        go_wp2_with fail
                        go_quiet (fail)
                        go_wp2_with fail
                        go_quiet (fail)
                        go_wp2_with fail
                        go_roundg (m - (k + 1))
                        case rel =>
                          refine ⟨k + 1, HKM.out, rfl, by rw [← HEQ.out]; simp, by go_num, Lib.hid ⟨by first | exact dq_add (dq_add HK.out.1 _) _ | exact dq_add HK.out.1 _ | exact HK.out.1, HSTEP.out⟩⟩
                        case measure => have := HKM.out; omega
                    | false =>
                      rw [hgc] at hG'
                      have HLAST : Hid (k = m ∨ (k < m ∧ geW (out.getD k default).adj xa = false)) := Lib.hid (by
                        by_cases h : k < m
                        · rw [if_pos h] at hG'; exact .inr ⟨h, hG'.symm⟩
                        · exact .inl (by omega))
                      have HWT : Hid (out.takeWhile (fun y => geW y.adj xa) = out.take k ∧ out.dropWhile (fun y => geW y.adj xa) = out.drop k) := Lib.hid (by
                        have hm := HOW.out.2.1
                        refine while_take _ out k (by omega) (fun j h hj => ?_) (fun h => ?_)
                        · have := HK.out.2 j hj
                          simpa [List.getD, List.getElem?_eq_getElem h] using this
                        · rcases HLAST.out with e | ⟨-, e⟩
                          · omega
                          · simpa [List.getD, List.getElem?_eq_getElem h] using e)
                      have HINS : Hid (insP out ⟨xl, xs, xa⟩ = out.take k ++ (⟨xl, xs, xa⟩ : PrD) :: out.drop k ∧ insC out ⟨xl, xs, xa⟩ = (out.take k).all (fun y => !(Ieee.double.order y.adj xa == some .eq))) := Lib.hid (by
                        unfold insP insC
                        simp only []
                        rw [HWT.out.1, HWT.out.2]
                        exact ⟨rfl, rfl⟩)
                      generalize hac : (cl && (out.take k).all (fun y => !(Ieee.double.order y.adj xa == some .eq))) = acc at *
                      have HACC : Hid ((cl && insC out ⟨xl, xs, xa⟩) = acc) := Lib.hid (by rw [HINS.out.2]; exact hac)
                      have HKM := Lib.hid hk
                      clear hgc hG' hac hk
                      go_upto_region 33 with fail
                      go_cut [15, 18, 166] from 153 to 166 (fun s15 s18 s166 wz => s15 = .bool acc ∧ s18 = .int .i64 k ∧ s166 = .bool false ∧ Hid (∃ q, wz = wt.drewN q))
                      case first =>
                        by_cases hkm : k < m
                        · have hkm2 : (k : Int) < (m : Int) := by omega
                          obtain ⟨g2, eg2, hrow⟩ := pr_at (HOW.out.1.tch HTT.out) (by omega)
                          obtain rfl : og = g2 := by simpa using eg2
                          have y2 := hrow k hkm 2 (by omega)
                          have HGF : Hid (geW (out.getD k default).adj xa = false) := Lib.hid (by
                            rcases HLAST.out with e | ⟨-, e⟩
                            · omega
                            · exact e)
                          generalize out.getD k default = y at *
                          obtain ⟨yl, ys, ya⟩ := y
                          simp only [sC, List.getElem?_cons_succ, List.getElem?_cons_zero] at y2
                          have hga : (FloatKind.f64.format.order ya xa == some .gt || FloatKind.f64.format.order ya xa == some .eq) = false := HGF.out
                          clear hrow hkm
                          go_wp2_with fail
                          go_quiet (fail)
                          go_wp2_with fail
                          go_meet
                          exact ⟨rfl, rfl, rfl, Lib.hid ⟨_, rfl⟩⟩
                        · obtain rfl : k = m := by have := HKM.out; omega
                          have hkm2 : decide ((k : Int) < (k : Int)) = false := decide_eq_false (by omega)
                          clear hkm
                          go_wp2_with fail
                          go_quiet (fail)
                          go_wp2_with fail
                          go_meet
                          exact ⟨rfl, rfl, rfl, Lib.hid ⟨_, rfl⟩⟩
                      case rest =>
                        obtain ⟨rfl, rfl, rfl, HQ⟩ := hcut
                        rename World => wz
                        have HTZ : Hid (Tch [] wt wz) := Lib.hid (by obtain ⟨q, e⟩ := HQ.out; rw [e]; exact (Tch.refl _ _).drewN _)
                        clear z0 z1 z2
                        obtain ⟨z0, z1, z2⟩ := HXC.out wz HTZ.out
                        have HOZ := Lib.hid (HOW.out.1.tch (HTT.out.trans HTZ.out))
                        have hmo : m ≤ oc := by
                          rcases HOZ.out.row.2 with ⟨e, -⟩ | ⟨g', cap, cur, e, -, -, hnc, -⟩
                          · simp at e
                          · simp at e; omega
                        have hkI : (k : Int) ≤ (m : Int) := by have := HKM.out; omega
                        have hmI2 : (m : Int) ≤ (oc : Int) := by omega
                        have hkoc : (k : Int) ≤ (oc : Int) := by omega
                        by_cases hko : k = oc
                        · obtain rfl : k = m := by have := HKM.out; omega
                          obtain rfl := hko
                          have HA1 := Lib.hid (ins_app1 (x := ⟨xl, xs, xa⟩) (A := ⟨og, 0, none⟩) (k := k) (d := 0) (r := 0) HOZ.out HOW.out.2.1 (Nat.le_refl _) (by omega) HML.out (fun h => absurd h (by omega)))
                          clear hmo
                          go_wp2_with fail
                          go_region_held3 (fun w' => w'.cell? ⟨wq.heap.size, 0, none⟩ = some (.int .i64 xl) ∧ w'.cell? ⟨wq.heap.size, 1, none⟩ = some (.float .f64 xs) ∧ w'.cell? ⟨wq.heap.size, 2, none⟩ = some (.float .f64 xa)) (go_keep) (first
                            | (refine step_append_run rfl (.tmp 184) (.tmp 187) 50 rfl (.slice (some ⟨wz.heap.size, 0, none⟩) 1 1) (.slice (some ⟨og, 0, none⟩) 0 0) (by simp [Act.eval]) (by simp [Act.eval]) HA1.out ?_
                               rintro v' w5 ⟨g1, c1, rfl, n1, n2, n3⟩
                               have HR1 := Lib.hid n1
                               have HR2 := Lib.hid n2
                               have HT5 := Lib.hid (HTZ.out.trans n3)
                               have HA2 := Lib.hid (ins_app2 (x := ⟨xl, xs, xa⟩) n1 n2 HOW.out.2.1 (Nat.le_refl _) (by omega) HML.out)
                               clear n1 n2 n3 z0 z1 z2
                               obtain ⟨z0, z1, z2⟩ := HXC.out w5 HT5.out)
                            | (refine step_append_run rfl (.tmp 182) (.tmp 188) 50 rfl (.slice (some ⟨og, 0, none⟩) k k) (.slice (some ⟨g1, 0, none⟩) (1 + 0) c1) (by simp [Act.eval]) (by simp [Act.eval]) HA2.out ?_
                               rintro v' w6 ⟨g2, c2, rfl, n1, n2⟩
                               have HR3 := Lib.hid n1
                               have hx6 := tt_cells (n2.obj ((HTT.out.trans HT5.out).obj HXB.out (by simp)) (by have := HOG.out; simp; omega))
                               clear n1 n2 z0 z1 z2
                               obtain ⟨z0, z1, z2⟩ := hx6))
                          all_goals
                            go_wp2_with fail
                            go_roundg (LL.length - 1 - (i + 1))
                            case rel => exact ⟨i + 1, k + 1, g2, c2, acc, HLI.out, rfl, rfl, rfl, by go_num, Lib.hid (by
                              rw [HTK2.out, HSN2.out]
                              simp only []
                              rw [HINS.out.1]
                              refine ⟨?_, HACC.out.symm, HR3.out⟩
                              have h1 := HOW.out.2.1
                              have h2 := HKM.out
                              rw [List.length_append, List.length_cons, List.length_take, List.length_drop]
                              omega)⟩
                            case measure => have := HLI.out; omega
                        · have HA1 := Lib.hid (ins_app1 (x := ⟨xl, xs, xa⟩) (A := ⟨og, k * 3, none⟩) (k := k) (d := oc - k) HOZ.out HOW.out.2.1 HKM.out rfl HML.out (fun _ => rfl))
                          have hko1 : ¬ oc = k := fun e => hko e.symm
                          have hko2 : ((k : Int) == (oc : Int)) = false := beq_eq_false_iff_ne.2 (by omega)
                          have hko3 : (k : Int) < (oc : Int) := by omega
                          clear hmo
                          go_wp2_with fail
                          go_region_held3 (fun w' => w'.cell? ⟨wq.heap.size, 0, none⟩ = some (.int .i64 xl) ∧ w'.cell? ⟨wq.heap.size, 1, none⟩ = some (.float .f64 xs) ∧ w'.cell? ⟨wq.heap.size, 2, none⟩ = some (.float .f64 xa)) (go_keep) (first
                            | (refine step_append_run rfl (.tmp 184) (.tmp 187) 50 rfl (.slice (some ⟨wz.heap.size, 0, none⟩) 1 1) (.slice (some ⟨og, k * 3, none⟩) (m - k) (oc - k)) (by simp [Act.eval]) (by simp [Act.eval]) HA1.out ?_
                               rintro v' w5 ⟨g1, c1, rfl, n1, n2, n3⟩
                               have HR1 := Lib.hid n1
                               have HR2 := Lib.hid n2
                               have HT5 := Lib.hid (HTZ.out.trans n3)
                               have HA2 := Lib.hid (ins_app2 (x := ⟨xl, xs, xa⟩) n1 n2 HOW.out.2.1 HKM.out rfl HML.out)
                               clear n1 n2 n3 z0 z1 z2
                               obtain ⟨z0, z1, z2⟩ := HXC.out w5 HT5.out)
                            | (refine step_append_run rfl (.tmp 182) (.tmp 188) 50 rfl (.slice (some ⟨og, 0, none⟩) k oc) (.slice (some ⟨g1, 0, none⟩) (1 + (m - k)) c1) (by simp [Act.eval]) (by simp [Act.eval]) HA2.out ?_
                               rintro v' w6 ⟨g2, c2, rfl, n1, n2⟩
                               have HR3 := Lib.hid n1
                               have hx6 := tt_cells (n2.obj ((HTT.out.trans HT5.out).obj HXB.out (by simp)) (by have := HOG.out; simp; omega))
                               clear n1 n2 z0 z1 z2
                               obtain ⟨z0, z1, z2⟩ := hx6))
                          all_goals
                            go_wp2_with fail
                            go_roundg (LL.length - 1 - (i + 1))
                            case rel => exact ⟨i + 1, m + 1, g2, c2, acc, HLI.out, rfl, rfl, rfl, by go_num, Lib.hid (by
                              rw [HTK2.out, HSN2.out]
                              simp only []
                              rw [HINS.out.1]
                              refine ⟨?_, HACC.out.symm, HR3.out⟩
                              have h1 := HOW.out.2.1
                              have h2 := HKM.out
                              rw [List.length_append, List.length_cons, List.length_take, List.length_drop]
                              omega)⟩
                            case measure => have := HLI.out; omega
              · obtain rfl : i = LL.length - 1 := by omega
                have hrf : (PL.take (LL.length - 1)).filter wants = pickL sc b LL.length := HFIN.out.symm
                have HYE : Hid (m = (insAll (pickL sc b LL.length) []).1.length ∧ cl = (insAll (pickL sc b LL.length) []).2 ∧ Own wv wq 84 3 (.slice (some ⟨og, 0, none⟩) m oc) m ((insAll (pickL sc b LL.length) []).1.flatMap sC)) := by
                  have h := HY
                  rw [hrf] at h
                  exact h
                clear hlt hi hrf HY
                have HOE : Hid (Tch [] w wv) := Lib.hid (HZ0.out.2.trans HZ.out.t)
                go_wp2_with fail
                go_ret2
                obtain ⟨h1, h2, h3⟩ := HYE.out
                refine ⟨some ⟨og, 0, none⟩, oc, by rw [h1, h2]; rfl, ?_⟩
                rw [← h1]
                exact ⟨HOE.out.trans h3.t, ownsRow_low h3.row HOE.out.size⟩

end Go.Proofs.Ytdofgamahjmohaa
