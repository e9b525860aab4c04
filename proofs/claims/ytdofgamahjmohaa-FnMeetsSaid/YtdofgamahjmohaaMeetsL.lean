/- FnMeets returns true for all ranges of keys: two ranges meet if neither ends ahead of the beginning of the other one, and that of all keys meets each. No condition. -/
import Derived.Test.YtdofgamahjmohaaMeetsW
import Derived.Test.YtdofgamahjmohaaOpenB
import Derived.Lib.SmallJoins
namespace Go.Proofs.Ytdofgamahjmohaa.fnMeets
open Go.ChangeShapes Go.WideShapes Go.ChangeAt Go.RowKit Go.Deep Go.Joins
set_option maxRecDepth 100000

theorem own : ownKnob Try.prog.godebug = none := by kernel_rfl

theorem isR_true {t1 t2 : Bool} {k1 k2 : Kv} (h : isR t1 t2 k1 k2 = true) : t1 = true ∧ t2 = true ∧ kcmp k1 k2 ≤ 0 := by
  simp only [isR, isB, Bool.and_eq_true, decide_eq_true_eq] at h
  exact ⟨h.1.1.1.1, h.1.2.1.1, h.2⟩

theorem meetB_self {k1 k2 : Kv} (h : kcmp k1 k2 ≤ 0) : meetB k1 k2 false k1 k2 false = true := by
  have := kcmp_anti k1 k2
  simp only [meetB, Bool.false_or, Bool.and_eq_true, decide_eq_true_eq]
  omega

theorem meetB_swap (k1 k2 k3 k4 : Kv) (i1 i2 : Bool) : meetB k3 k4 i2 k1 k2 i1 = meetB k1 k2 i1 k3 k4 i2 := by
  have h1 := kcmp_anti k1 k4
  have h2 := kcmp_anti k2 k3
  unfold meetB
  rw [Bool.eq_iff_iff]
  simp only [Bool.or_eq_true, Bool.and_eq_true, decide_eq_true_eq]
  constructor
  all_goals
    rintro ((h | h) | h)
    · exact .inl (.inr h)
    · exact .inl (.inl h)
    · exact .inr (by omega)

set_option maxHeartbeats 8000000 in
theorem walk (t1 t2 t3 t4 : Bool) (k1 k2 k3 k4 : Kv) (a1 a2 a3 a4 : Option Addr) (c1 c2 c3 c4 : Nat) (i1 i2 : Bool) (w : World)
    (o1 : okV k1.ver) (o2 : okV k2.ver) (o3 : okV k3.ver) (o4 : okV k4.ver) (h1 : By w k1.key a1 c1) (h2 : By w k2.key a2 c2) (h3 : By w k3.key a3 c3) (h4 : By w k4.key a4 c4) :
    Calls Try.prog 3 #[bndV t1 a1 k1.key.length c1 k1.ver, bndV t2 a2 k2.key.length c2 k2.ver, .bool i1, bndV t3 a3 k3.key.length c3 k3.ver, bndV t4 a4 k4.key.length c4 k4.ver, .bool i2] w
      fun e w' => e = .returned (.bool true) ∧ Tch [] w w' := by
  have T : Tch [] w ((((w.alloc (bndO t1 a1 k1.key.length c1 k1.ver)).alloc (bndO t2 a2 k2.key.length c2 k2.ver)).alloc (bndO t3 a3 k3.key.length c3 k3.ver)).alloc (bndO t4 a4 k4.key.length c4 k4.ver)) := ((((Tch.refl _ _).alloc _).alloc _).alloc _).alloc _
  have hb1 := box2 w (bndO t1 a1 k1.key.length c1 k1.ver) (bndO t2 a2 k2.key.length c2 k2.ver)
  have hb2 := box2 ((w.alloc (bndO t1 a1 k1.key.length c1 k1.ver)).alloc (bndO t2 a2 k2.key.length c2 k2.ver)) (bndO t3 a3 k3.key.length c3 k3.ver) (bndO t4 a4 k4.key.length c4 k4.ver)
  have ez : ((w.alloc (bndO t1 a1 k1.key.length c1 k1.ver)).alloc (bndO t2 a2 k2.key.length c2 k2.ver)).heap.size = w.heap.size + 1 + 1 := by simp
  rw [ez] at hb2
  have hb1' : ((((w.alloc (bndO t1 a1 k1.key.length c1 k1.ver)).alloc (bndO t2 a2 k2.key.length c2 k2.ver)).alloc (bndO t3 a3 k3.key.length c3 k3.ver)).alloc (bndO t4 a4 k4.key.length c4 k4.ver)).heap[w.heap.size]? = some (bndO t1 a1 k1.key.length c1 k1.ver) ∧
      ((((w.alloc (bndO t1 a1 k1.key.length c1 k1.ver)).alloc (bndO t2 a2 k2.key.length c2 k2.ver)).alloc (bndO t3 a3 k3.key.length c3 k3.ver)).alloc (bndO t4 a4 k4.key.length c4 k4.ver)).heap[w.heap.size + 1]? = some (bndO t2 a2 k2.key.length c2 k2.ver) := by
    have t : Tch [] ((w.alloc (bndO t1 a1 k1.key.length c1 k1.ver)).alloc (bndO t2 a2 k2.key.length c2 k2.ver)) ((((w.alloc (bndO t1 a1 k1.key.length c1 k1.ver)).alloc (bndO t2 a2 k2.key.length c2 k2.ver)).alloc (bndO t3 a3 k3.key.length c3 k3.ver)).alloc (bndO t4 a4 k4.key.length c4 k4.ver)) := ((Tch.refl _ _).alloc _).alloc _
    exact ⟨t.obj hb1.1 (by simp), t.obj hb1.2 (by simp)⟩
  generalize hW : (((w.alloc (bndO t1 a1 k1.key.length c1 k1.ver)).alloc (bndO t2 a2 k2.key.length c2 k2.ver)).alloc (bndO t3 a3 k3.key.length c3 k3.ver)).alloc (bndO t4 a4 k4.key.length c4 k4.ver) = W at *
  have HCL := Lib.hid (fun (w' : World) (t : Tch [] W w') => (⟨bnd_cells (t.obj hb1'.1 (by simp)), bnd_cells (t.obj hb1'.2 (by simp)), bnd_cells (t.obj hb2.1 (by simp)), bnd_cells (t.obj hb2.2 (by simp))⟩ : _ ∧ _ ∧ _ ∧ _))
  obtain ⟨⟨x0, x1, x2⟩, ⟨y0, y1, y2⟩, ⟨z0, z1, z2⟩, u0, u1, u2⟩ := HCL.out W (Tch.refl _ _)
  have HW := Lib.hid hW
  have HT := Lib.hid T
  have HT0 := Lib.hid (Tch.refl [] W)
  have H1 := Lib.hid (fun (w' : World) (t : Tch [] W w') => h1.tch (T.trans t))
  have H2 := Lib.hid (fun (w' : World) (t : Tch [] W w') => h2.tch (T.trans t))
  have H3 := Lib.hid (fun (w' : World) (t : Tch [] W w') => h3.tch (T.trans t))
  have H4 := Lib.hid (fun (w' : World) (t : Tch [] W w') => h4.tch (T.trans t))
  have HO := Lib.hid (⟨o1, o2, o3, o4⟩ : okV k1.ver ∧ okV k2.ver ∧ okV k3.ver ∧ okV k4.ver)
  clear hb1 hb1' hb2 ez T h1 h2 h3 h4 hW o1 o2 o3 o4
  go_enter Try.func3, Try.ntmps3
  go_upto_region 1 with fail
  rw [HW.out]
  go_wp2_with fail
  refine (zzFits3_any t1 a1 k1.key.length c1 k1.ver _).mono ?_
  rintro e w1 ⟨rfl, t⟩
  have HT1 := Lib.hid (HT0.out.trans t)
  clear x0 x1 x2 y0 y1 y2 z0 z1 z2 u0 u1 u2 t
  obtain ⟨⟨x0, x1, x2⟩, ⟨y0, y1, y2⟩, ⟨z0, z1, z2⟩, u0, u1, u2⟩ := HCL.out w1 HT1.out
  by_cases l1 : k1.key.length ≤ 2147483647
  rotate_left
  · have d1 : decide (k1.key.length ≤ 2147483647) = false := by simpa using l1
    clear l1
    go_wp2_with fail
    go_ret
    exact ⟨rfl, HT.out.trans HT1.out⟩
  have d1 : decide (k1.key.length ≤ 2147483647) = true := by simpa using l1
  go_wp2_with fail
  refine (zzFits3_any t2 a2 k2.key.length c2 k2.ver _).mono ?_
  rintro e w2 ⟨rfl, t⟩
  have HT2 := Lib.hid (HT1.out.trans t)
  clear x0 x1 x2 y0 y1 y2 z0 z1 z2 u0 u1 u2 t
  obtain ⟨⟨x0, x1, x2⟩, ⟨y0, y1, y2⟩, ⟨z0, z1, z2⟩, u0, u1, u2⟩ := HCL.out w2 HT2.out
  by_cases l2 : k2.key.length ≤ 2147483647
  rotate_left
  · have d2 : decide (k2.key.length ≤ 2147483647) = false := by simpa using l2
    clear l2
    go_wp2_with fail
    go_ret
    exact ⟨rfl, HT.out.trans HT2.out⟩
  have d2 : decide (k2.key.length ≤ 2147483647) = true := by simpa using l2
  go_wp2_with fail
  refine (zzFits3_any t3 a3 k3.key.length c3 k3.ver _).mono ?_
  rintro e w3 ⟨rfl, t⟩
  have HT3 := Lib.hid (HT2.out.trans t)
  clear x0 x1 x2 y0 y1 y2 z0 z1 z2 u0 u1 u2 t
  obtain ⟨⟨x0, x1, x2⟩, ⟨y0, y1, y2⟩, ⟨z0, z1, z2⟩, u0, u1, u2⟩ := HCL.out w3 HT3.out
  by_cases l3 : k3.key.length ≤ 2147483647
  rotate_left
  · have d3 : decide (k3.key.length ≤ 2147483647) = false := by simpa using l3
    clear l3
    go_wp2_with fail
    go_ret
    exact ⟨rfl, HT.out.trans HT3.out⟩
  have d3 : decide (k3.key.length ≤ 2147483647) = true := by simpa using l3
  go_wp2_with fail
  refine (zzFits3_any t4 a4 k4.key.length c4 k4.ver _).mono ?_
  rintro e w4 ⟨rfl, t⟩
  have HT4 := Lib.hid (HT3.out.trans t)
  clear x0 x1 x2 y0 y1 y2 z0 z1 z2 u0 u1 u2 t
  obtain ⟨⟨x0, x1, x2⟩, ⟨y0, y1, y2⟩, ⟨z0, z1, z2⟩, u0, u1, u2⟩ := HCL.out w4 HT4.out
  by_cases l4 : k4.key.length ≤ 2147483647
  rotate_left
  · have d4 : decide (k4.key.length ≤ 2147483647) = false := by simpa using l4
    clear l4
    go_wp2_with fail
    go_ret
    exact ⟨rfl, HT.out.trans HT4.out⟩
  have d4 : decide (k4.key.length ≤ 2147483647) = true := by simpa using l4
  go_wp2_with fail
  refine (isRange_any t1 t2 k1 k2 a1 a2 c1 c2 _ l1 l2 (H1.out _ HT4.out) (H2.out _ HT4.out)).mono ?_
  rintro e w5 ⟨rfl, t⟩
  have HT5 := Lib.hid (HT4.out.trans t)
  clear x0 x1 x2 y0 y1 y2 z0 z1 z2 u0 u1 u2 t
  obtain ⟨⟨x0, x1, x2⟩, ⟨y0, y1, y2⟩, ⟨z0, z1, z2⟩, u0, u1, u2⟩ := HCL.out w5 HT5.out
  by_cases r1 : isR t1 t2 k1 k2 = true
  rotate_left
  · have d5 : isR t1 t2 k1 k2 = false := by simpa using r1
    clear r1
    go_wp2_with fail
    go_ret
    exact ⟨rfl, HT.out.trans HT5.out⟩
  go_wp2_with fail
  refine (isRange_any t3 t4 k3 k4 a3 a4 c3 c4 _ l3 l4 (H3.out _ HT5.out) (H4.out _ HT5.out)).mono ?_
  rintro e w6 ⟨rfl, t⟩
  have HT6 := Lib.hid (HT5.out.trans t)
  clear x0 x1 x2 y0 y1 y2 z0 z1 z2 u0 u1 u2 t
  obtain ⟨⟨x0, x1, x2⟩, ⟨y0, y1, y2⟩, ⟨z0, z1, z2⟩, u0, u1, u2⟩ := HCL.out w6 HT6.out
  by_cases r2 : isR t3 t4 k3 k4 = true
  rotate_left
  · have d5 : isR t3 t4 k3 k4 = false := by simpa using r2
    clear r2
    go_wp2_with fail
    go_ret
    exact ⟨rfl, HT.out.trans HT6.out⟩
  obtain ⟨rfl, rfl, e1⟩ := isR_true r1
  obtain ⟨rfl, rfl, e2⟩ := isR_true r2
  have HE := Lib.hid e1
  have HMS := Lib.hid (meetB_self e1)
  have HSW := Lib.hid (meetB_swap k1 k2 k3 k4 i1 i2)
  have hd : meetB k1 k2 i1 k3 k4 i2 = (i1 || i2 || (decide (kcmp k1 k4 ≤ 0) && decide (0 ≤ kcmp k2 k3))) := rfl
  have ha := kcmp_anti k2 k3
  have HX1 := Lib.hid (fun (w' : World) (t : Tch [] W w') => implMeets_any k1 k2 k3 k4 a1 a2 a3 a4 c1 c2 c3 c4 i1 i2 w' l1 l2 l3 l4 HO.out.1 HO.out.2.1 HO.out.2.2.1 HO.out.2.2.2 (H1.out _ t) (H2.out _ t) (H3.out _ t) (H4.out _ t))
  have HX2 := Lib.hid (fun (w' : World) (t : Tch [] W w') => implMeets_any k3 k4 k1 k2 a3 a4 a1 a2 c3 c4 c1 c2 i2 i1 w' l3 l4 l1 l2 HO.out.2.2.1 HO.out.2.2.2 HO.out.1 HO.out.2.1 (H3.out _ t) (H4.out _ t) (H1.out _ t) (H2.out _ t))
  have HX3 := Lib.hid (fun (w' : World) (t : Tch [] W w') => implMeets_any k1 k2 k1 k2 a1 a2 a1 a2 c1 c2 c1 c2 false false w' l1 l2 l1 l2 HO.out.1 HO.out.2.1 HO.out.1 HO.out.2.1 (H1.out _ t) (H2.out _ t) (H1.out _ t) (H2.out _ t))
  rw [HSW.out] at HX2
  rw [HMS.out] at HX3
  have HO1 := Lib.hid (fun (w' : World) (t : Tch [] W w') => spec_Order_any k1 k4 a1 a4 c1 c4 w' l1 l4 (H1.out _ t) (H4.out _ t))
  have HO2 := Lib.hid (fun (w' : World) (t : Tch [] W w') => spec_Order_any k3 k2 a3 a2 c3 c2 w' l3 l2 (H3.out _ t) (H2.out _ t))
  generalize meetB k1 k2 i1 k3 k4 i2 = mb at *
  generalize kcmp k1 k4 = x at *
  generalize kcmp k3 k2 = y at *
  generalize kcmp k2 k3 = z at *
  clear e1 e2 HSW HMS
  cases i1 with
  | true =>
    obtain rfl : mb = true := by rw [hd]; simp; try omega
    clear hd ha
    go_wp2_with fail
    refine (HX1.out _ HT6.out).mono ?_
    rintro e w7 ⟨rfl, t⟩
    have HT7 := Lib.hid (HT6.out.trans t)
    clear x0 x1 x2 y0 y1 y2 z0 z1 z2 u0 u1 u2 t
    obtain ⟨⟨x0, x1, x2⟩, ⟨y0, y1, y2⟩, ⟨z0, z1, z2⟩, u0, u1, u2⟩ := HCL.out w7 HT7.out
    go_wp2_with fail
    refine (HX2.out _ HT7.out).mono ?_
    rintro e w8 ⟨rfl, t⟩
    have HT8 := Lib.hid (HT7.out.trans t)
    clear x0 x1 x2 y0 y1 y2 z0 z1 z2 u0 u1 u2 t
    obtain ⟨⟨x0, x1, x2⟩, ⟨y0, y1, y2⟩, ⟨z0, z1, z2⟩, u0, u1, u2⟩ := HCL.out w8 HT8.out
    go_wp2_with fail
    refine (HX3.out _ HT8.out).mono ?_
    rintro e w9 ⟨rfl, t⟩
    have HT9 := Lib.hid (HT8.out.trans t)
    clear x0 x1 x2 y0 y1 y2 z0 z1 z2 u0 u1 u2 t
    obtain ⟨⟨x0, x1, x2⟩, ⟨y0, y1, y2⟩, ⟨z0, z1, z2⟩, u0, u1, u2⟩ := HCL.out w9 HT9.out
    go_wp2_with fail
    go_ret
    exact ⟨rfl, HT.out.trans HT9.out⟩
  | false =>
    cases i2 with
    | true =>
      obtain rfl : mb = true := by rw [hd]; simp; try omega
      clear hd ha
      go_wp2_with fail
      refine (HX1.out _ HT6.out).mono ?_
      rintro e w7 ⟨rfl, t⟩
      have HT7 := Lib.hid (HT6.out.trans t)
      clear x0 x1 x2 y0 y1 y2 z0 z1 z2 u0 u1 u2 t
      obtain ⟨⟨x0, x1, x2⟩, ⟨y0, y1, y2⟩, ⟨z0, z1, z2⟩, u0, u1, u2⟩ := HCL.out w7 HT7.out
      go_wp2_with fail
      refine (HX2.out _ HT7.out).mono ?_
      rintro e w8 ⟨rfl, t⟩
      have HT8 := Lib.hid (HT7.out.trans t)
      clear x0 x1 x2 y0 y1 y2 z0 z1 z2 u0 u1 u2 t
      obtain ⟨⟨x0, x1, x2⟩, ⟨y0, y1, y2⟩, ⟨z0, z1, z2⟩, u0, u1, u2⟩ := HCL.out w8 HT8.out
      go_wp2_with fail
      refine (HX3.out _ HT8.out).mono ?_
      rintro e w9 ⟨rfl, t⟩
      have HT9 := Lib.hid (HT8.out.trans t)
      clear x0 x1 x2 y0 y1 y2 z0 z1 z2 u0 u1 u2 t
      obtain ⟨⟨x0, x1, x2⟩, ⟨y0, y1, y2⟩, ⟨z0, z1, z2⟩, u0, u1, u2⟩ := HCL.out w9 HT9.out
      go_wp2_with fail
      go_ret
      exact ⟨rfl, HT.out.trans HT9.out⟩
    | false =>
      go_wp2_with fail
      refine (HO1.out _ HT6.out).mono ?_
      rintro e w7 ⟨rfl, t⟩
      have HT7 := Lib.hid (HT6.out.trans t)
      clear x0 x1 x2 y0 y1 y2 z0 z1 z2 u0 u1 u2 t
      obtain ⟨⟨x0, x1, x2⟩, ⟨y0, y1, y2⟩, ⟨z0, z1, z2⟩, u0, u1, u2⟩ := HCL.out w7 HT7.out
      by_cases q1 : x ≤ 0
      · skip
        go_wp2_with fail
        refine (HO2.out _ HT7.out).mono ?_
        rintro e w8 ⟨rfl, t⟩
        have HT8 := Lib.hid (HT7.out.trans t)
        clear x0 x1 x2 y0 y1 y2 z0 z1 z2 u0 u1 u2 t
        obtain ⟨⟨x0, x1, x2⟩, ⟨y0, y1, y2⟩, ⟨z0, z1, z2⟩, u0, u1, u2⟩ := HCL.out w8 HT8.out
        by_cases q2 : y ≤ 0
        · skip
          obtain rfl : mb = true := by rw [hd]; simp; try omega
          clear hd ha
          go_wp2_with fail
          refine (HX1.out _ HT8.out).mono ?_
          rintro e w9 ⟨rfl, t⟩
          have HT9 := Lib.hid (HT8.out.trans t)
          clear x0 x1 x2 y0 y1 y2 z0 z1 z2 u0 u1 u2 t
          obtain ⟨⟨x0, x1, x2⟩, ⟨y0, y1, y2⟩, ⟨z0, z1, z2⟩, u0, u1, u2⟩ := HCL.out w9 HT9.out
          go_wp2_with fail
          refine (HX2.out _ HT9.out).mono ?_
          rintro e w10 ⟨rfl, t⟩
          have HT10 := Lib.hid (HT9.out.trans t)
          clear x0 x1 x2 y0 y1 y2 z0 z1 z2 u0 u1 u2 t
          obtain ⟨⟨x0, x1, x2⟩, ⟨y0, y1, y2⟩, ⟨z0, z1, z2⟩, u0, u1, u2⟩ := HCL.out w10 HT10.out
          go_wp2_with fail
          refine (HX3.out _ HT10.out).mono ?_
          rintro e w11 ⟨rfl, t⟩
          have HT11 := Lib.hid (HT10.out.trans t)
          clear x0 x1 x2 y0 y1 y2 z0 z1 z2 u0 u1 u2 t
          obtain ⟨⟨x0, x1, x2⟩, ⟨y0, y1, y2⟩, ⟨z0, z1, z2⟩, u0, u1, u2⟩ := HCL.out w11 HT11.out
          go_wp2_with fail
          go_ret
          exact ⟨rfl, HT.out.trans HT11.out⟩
        · have d6 : decide (y ≤ 0) = false := by simpa using q2
          obtain rfl : mb = false := by rw [hd]; simp; try omega
          clear hd ha
          go_wp2_with fail
          refine (HX1.out _ HT8.out).mono ?_
          rintro e w9 ⟨rfl, t⟩
          have HT9 := Lib.hid (HT8.out.trans t)
          clear x0 x1 x2 y0 y1 y2 z0 z1 z2 u0 u1 u2 t
          obtain ⟨⟨x0, x1, x2⟩, ⟨y0, y1, y2⟩, ⟨z0, z1, z2⟩, u0, u1, u2⟩ := HCL.out w9 HT9.out
          go_wp2_with fail
          refine (HX2.out _ HT9.out).mono ?_
          rintro e w10 ⟨rfl, t⟩
          have HT10 := Lib.hid (HT9.out.trans t)
          clear x0 x1 x2 y0 y1 y2 z0 z1 z2 u0 u1 u2 t
          obtain ⟨⟨x0, x1, x2⟩, ⟨y0, y1, y2⟩, ⟨z0, z1, z2⟩, u0, u1, u2⟩ := HCL.out w10 HT10.out
          go_wp2_with fail
          refine (HX3.out _ HT10.out).mono ?_
          rintro e w11 ⟨rfl, t⟩
          have HT11 := Lib.hid (HT10.out.trans t)
          clear x0 x1 x2 y0 y1 y2 z0 z1 z2 u0 u1 u2 t
          obtain ⟨⟨x0, x1, x2⟩, ⟨y0, y1, y2⟩, ⟨z0, z1, z2⟩, u0, u1, u2⟩ := HCL.out w11 HT11.out
          go_wp2_with fail
          go_ret
          exact ⟨rfl, HT.out.trans HT11.out⟩
      · have d6 : decide (x ≤ 0) = false := by simpa using q1
        obtain rfl : mb = false := by rw [hd]; simp; try omega
        clear hd ha
        go_wp2_with fail
        refine (HX1.out _ HT7.out).mono ?_
        rintro e w8 ⟨rfl, t⟩
        have HT8 := Lib.hid (HT7.out.trans t)
        clear x0 x1 x2 y0 y1 y2 z0 z1 z2 u0 u1 u2 t
        obtain ⟨⟨x0, x1, x2⟩, ⟨y0, y1, y2⟩, ⟨z0, z1, z2⟩, u0, u1, u2⟩ := HCL.out w8 HT8.out
        go_wp2_with fail
        refine (HX2.out _ HT8.out).mono ?_
        rintro e w9 ⟨rfl, t⟩
        have HT9 := Lib.hid (HT8.out.trans t)
        clear x0 x1 x2 y0 y1 y2 z0 z1 z2 u0 u1 u2 t
        obtain ⟨⟨x0, x1, x2⟩, ⟨y0, y1, y2⟩, ⟨z0, z1, z2⟩, u0, u1, u2⟩ := HCL.out w9 HT9.out
        go_wp2_with fail
        refine (HX3.out _ HT9.out).mono ?_
        rintro e w10 ⟨rfl, t⟩
        have HT10 := Lib.hid (HT9.out.trans t)
        clear x0 x1 x2 y0 y1 y2 z0 z1 z2 u0 u1 u2 t
        obtain ⟨⟨x0, x1, x2⟩, ⟨y0, y1, y2⟩, ⟨z0, z1, z2⟩, u0, u1, u2⟩ := HCL.out w10 HT10.out
        go_wp2_with fail
        go_ret
        exact ⟨rfl, HT.out.trans HT10.out⟩

theorem tsize : Try.prog.types.size = 207 := by kernel_rfl

/-! ### The row's step -/
theorem lifted (os : Os) (started : os.Started) (H : Type) (enc : TypeId × Value → H) :
    ReturnsInHanded {} Try.checked os 3 .any (Rows.fnMeetsSpec.pre6 enc Try.prog Try.f3 Rows.fnMeetsRow.domain false) (Rows.fnMeetsSpec.post enc Try.prog Try.f3 false true false false) := by
  refine returnsInHanded_of_change (C := Try.checked) own started (by kernel_rfl) Try.func3
    (ChangeSpec.witness6 (enc := enc) (C := Try.checked) false ⟨#[], #[.agg #[.bool false, .slice none 0 0, .int .u64 0], .agg #[.bool false, .slice none 0 0, .int .u64 0], .bool false, .agg #[.bool false, .slice none 0 0, .int .u64 0], .agg #[.bool false, .slice none 0 0, .int .u64 0], .bool false], []⟩ 8 (by kernel_rfl) (by kernel_rfl) (by kernel_rfl) (by kernel_rfl)) ?_
  intro W base args ds gs before hval0 hW hcnd _
  have hval : ∀ (j : Nat) t v, Try.f3.params[j]? = some t → args[j]? = some v → Value.okWide Try.prog W .any base t v := hval0
  have hW' := hW
  obtain ⟨p, q, hA0, hV, rfl, hfz, hnd⟩ := hW
  have hA : DataW.TrodAll enc Try.prog W 0 (fun _ => true) true Try.f3.params.toList args.toList ds p := hA0
  have hA1 := hA
  rw [Try.params3] at hA1 hval
  obtain ⟨v0, vs0, d0, ds0, p0, q0, hargs, rfl, rfl, h0, r0⟩ := trodAll_cons hA1
  obtain ⟨v1, vs1, d1, ds1, p1, q1, rfl, rfl, rfl, h1, r1⟩ := trodAll_cons r0
  obtain ⟨v2, vs2, d2, ds2, p2, q2, rfl, rfl, rfl, h2, r2⟩ := trodAll_cons r1
  obtain ⟨v3, vs3, d3, ds3, p3, q3, rfl, rfl, rfl, h3, r3⟩ := trodAll_cons r2
  obtain ⟨v4, vs4, d4, ds4, p4, q4, rfl, rfl, rfl, h4, r4⟩ := trodAll_cons r3
  obtain ⟨v5, vs5, d5, ds5, p5, q5, rfl, rfl, rfl, h5, r5⟩ := trodAll_cons r4
  obtain ⟨rfl, rfl, rfl⟩ := trodAll_nil r5
  obtain rfl : args = #[v0, v1, v2, v3, v4, v5] := by cases args; simp_all
  obtain ⟨rfl, rfl⟩ := trodVars_none hV
  obtain ⟨t1, a1, k1, c1, rfl, b1, o1⟩ := open_bound (hval 0 25 v0 rfl rfl) h0
  obtain ⟨t2, a2, k2, c2, rfl, b2, o2⟩ := open_bound (hval 1 25 v1 rfl rfl) h1
  obtain ⟨i1, rfl⟩ := okWide_bool Try.underlying4 (hval 2 4 v2 rfl rfl)
  obtain ⟨t3, a3, k3, c3, rfl, b3, o3⟩ := open_bound (hval 3 25 v3 rfl rfl) h3
  obtain ⟨t4, a4, k4, c4, rfl, b4, o4⟩ := open_bound (hval 4 25 v4 rfl rfl) h4
  obtain ⟨i2, rfl⟩ := okWide_bool Try.underlying4 (hval 5 4 v5 rfl rfl)
  refine (walk t1 t2 t3 t4 k1 k2 k3 k4 a1 a2 a3 a4 c1 c2 c3 c4 i1 i2 W o1 o2 o3 o4 b1 b2 b3 b4).mono fun e W' ⟨he, hg⟩ => ?_
  subst he
  rw [List.append_nil] at hW'
  exact ⟨_, rfl, post_law rfl 4 Try.underlying4 rfl rfl Try.kids Try.full (by
    rw [Try.params3]
    intro t ht
    show t < Try.prog.types.size
    rw [tsize]
    have ht : t ∈ [25, 25, 4, 25, 25, 4] := ht
    simp only [List.mem_cons, List.not_mem_nil, or_false] at ht
    rcases ht with rfl | rfl | rfl | rfl | rfl | rfl <;> exact Nat.lt_of_sub_pos (by decide)) hW' hA hg⟩

theorem over : Rows.fnMeetsRow.holds Try.pinned (OpenSpec.ofChange Rows.fnMeetsSpec) :=
  OpenClaim.holds_of_wide 3 Try.f3 rfl rfl rfl rfl rfl rfl rfl ⟨rfl, rfl, rfl, rfl, rfl⟩ rfl rfl rfl rfl rfl (by kernel_rfl) Try.func3 (by kernel_rfl)
    (of_decide_eq_true (by kernel_rfl)) (by unfold Func.isWrapper; first | (rw [if_pos (by decide +kernel)]; kernel_rfl) | (rw [if_neg (by decide +kernel)]; exact ⟨rfl, rfl⟩))
    (fun os started H enc _ => lifted os started H enc)

/-- The statement. -/
theorem proved : Rows.FnMeetsSaid :=
  over
#print axioms proved
end Go.Proofs.Ytdofgamahjmohaa.fnMeets
