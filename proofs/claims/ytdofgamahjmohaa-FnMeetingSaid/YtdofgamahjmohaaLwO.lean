/- (*Levels).Overlapping, impl.Meeting. -/
import Derived.Test.YtdofgamahjmohaaLwN
namespace Go.Proofs.Ytdofgamahjmohaa
open Go.RowKit Go.Deep
set_option maxRecDepth 100000

theorem Made.tch {w w' : World} {gL : Nat} {oa : Array Value} {n : Nat} {LL : List (List Tb)} (h : Made w gL oa n LL) (t : Tch [] w w') : Made w' gL oa n LL := by
  obtain ⟨b, gs, go, HA, CA, hc, cc, mv, hds, cbs, hL, hC⟩ := h
  exact ⟨b, gs, go, HA, CA, hc, cc, mv, hds, cbs, t.obj hL (by simp), hC.tch t⟩

theorem made_lev {w : World} {gL : Nat} {LL : List (List Tb)} {o : Op} (h : Made w gL (opA o.lv o.lt o.tt o.zt o.bl o.bt o.mt o.di) LL.length LL) {j : Nat} (hj : j < LL.length) :
    ∃ gs go gH hc d, w.cell? ⟨gL, 0, none⟩ = some (ptr gs) ∧ w.cell? ⟨gs, 0, none⟩ = some (.slice (some ⟨gH, 0, none⟩) LL.length hc) ∧ w.cell? ⟨gH, j, none⟩ = some (ptr d.h) ∧ Lev w go j d (LL.getD j []) := by
  obtain ⟨b, gs, go, HA, CA, hc, cc, mv, hds, cbs, hL, hC⟩ := h
  obtain ⟨gH, cap, e, -, hlt⟩ := ownsRow_value hC.hrow (by omega)
  simp only [Value.slice.injEq, true_and] at e
  obtain ⟨rfl, rfl⟩ := e
  refine ⟨gs, go, gH, hc, hds.getD j default, by rw [cell_of_row w _ _ _ 102 (0, 0) hL]; rfl, by rw [cell_of_row w _ _ _ 112 (0, 0) hC.sc]; rfl, ?_, hC.lev j hj⟩
  have hj2 : j < hds.length := by rw [hC.len]; exact hj
  have := (own_cell hC.hrow (j := j) (u := ptr (hds.getD j default).h) (by simp [List.getD, List.getElem?_eq_getElem hj2])).2
  have e1 : (⟨gH, 0, none⟩ : Addr).add j = ⟨gH, j, none⟩ := by unfold Addr.add; split <;> simp_all
  rw [e1] at this
  exact this

set_option maxHeartbeats 1000000 in
theorem lOverlapping_any (gL : Nat) (LL : List (List Tb)) (o : Op) (j : Nat) (L R : Kv) (g1 g2 : Nat) (w : World) (h : Made w gL (opA o.lv o.lt o.tt o.zt o.bl o.bt o.mt o.di) LL.length LL) (hv : Valid LL o) (hg : ∀ ts ∈ LL, ∀ t ∈ ts, t.good) (h1 : 1 ≤ j) (hj : j < LL.length)
    (kL : KeyAt w L g1 (L.key.length + 8)) (kR : KeyAt w R g2 (R.key.length + 8)) (lL : L.key.length ≤ 2147483647) (lR : R.key.length ≤ 2147483647) :
    Calls Try.prog 38 #[ptr gL, .int .i64 j, keyV g1 L.key.length (L.key.length + 8), keyV g2 R.key.length (R.key.length + 8)] w
      fun e w' => e = .returned (.tuple #[.int .i64 (mFrom (LL.getD j []) L), .int .i64 (mTo (LL.getD j []) R)]) ∧ Tch [] w w' := by
  obtain ⟨gs, go, gH, hc, d, x0, x1, x2, hl⟩ := made_lev h hj
  have hm : LL.getD j [] ∈ LL := by simp [List.getD, List.getElem?_eq_getElem hj]
  have ho : ∀ i, i < (LL.getD j []).length → OrdAt false (LL.getD j []) i := fun i hi => by
    have := hv.ord.ord j hj i hi
    rw [show decide (j = 0) = false from decide_eq_false (by omega)] at this
    exact this
  have HO := Lib.hid (overlapping_any go j d (LL.getD j []) L R g1 g2 w hl (hg _ hm) ho (by have := hv.few _ hm; omega) kL kR lL lR)
  have hj2 : (j : Int) < LL.length := by omega
  generalize mFrom (LL.getD j []) L = mf at *
  generalize mTo (LL.getD j []) R = mt at *
  clear h hv hg kL kR lL lR hl hm ho h1 hj
  go_enter Try.func38, Try.ntmps38
  go_wp2_with (go_at_call 47; refine HO.out.mono ?_; rintro e w1 ⟨rfl, t⟩; have HT := Lib.hid t; clear t)
  go_ret2
  exact ⟨rfl, HT.out⟩

set_option maxHeartbeats 4000000 in
theorem meeting_any (LL : List (List Tb)) (la : Option Addr) (c : Nat) (o : Op) (j : Nat) (L R : Kv) (a1 a2 : Option Addr) (c1 c2 : Nat) (w : World) (h : LvAt w LL la c) (hsh : ∀ ts ∈ LL, ∀ t ∈ ts, t.short) (hv : Valid LL o) (h1 : 1 ≤ j) (hj : j < LL.length)
    (lL : L.key.length ≤ 2147483647) (lR : R.key.length ≤ 2147483647) (oL : okV L.ver) (oR : okV R.ver) (bL : By w L.key a1 c1) (bR : By w R.key a2 c2) :
    Calls Try.prog 18 #[.slice la LL.length c, opV o, .int .i64 j, bndV true a1 L.key.length c1 L.ver, bndV true a2 R.key.length c2 R.ver] w
      fun e w' => e = .returned (.tuple #[.int .i64 (mFrom (LL.getD j []) L), .int .i64 (mTo (LL.getD j []) R)]) ∧ Tch [] w w' := by
  have hg := h.good hsh
  have HMD := Lib.hid (fun w' (t : Tch [] w w') => made_valid LL la c o w' (h.tch t) hsh hv)
  have HOV := Lib.hid (fun gL g1 g2 w' hm k1 k2 => lOverlapping_any gL LL o j L R g1 g2 w' hm hv hg h1 hj k1 k2 lL lR)
  obtain ⟨lv, lt, tt, zt, bl, bt, mt, di⟩ := o
  have T : Tch [] w (((w.alloc (.cells (opA lv lt tt zt bl bt mt di) 32)).alloc (bndO true a1 L.key.length c1 L.ver)).alloc (bndO true a2 R.key.length c2 R.ver)) := (((Tch.refl _ _).alloc _).alloc _).alloc _
  have hb0 : (((w.alloc (.cells (opA lv lt tt zt bl bt mt di) 32)).alloc (bndO true a1 L.key.length c1 L.ver)).alloc (bndO true a2 R.key.length c2 R.ver)).heap[w.heap.size]? = some (.cells (opA lv lt tt zt bl bt mt di) 32 (0, 0)) := by
    have t : Tch [] (w.alloc (.cells (opA lv lt tt zt bl bt mt di) 32)) (((w.alloc (.cells (opA lv lt tt zt bl bt mt di) 32)).alloc (bndO true a1 L.key.length c1 L.ver)).alloc (bndO true a2 R.key.length c2 R.ver)) := ((Tch.refl _ _).alloc _).alloc _
    exact t.obj (alloc_at rfl) (by simp)
  have hb12 := box2 (w.alloc (.cells (opA lv lt tt zt bl bt mt di) 32)) (bndO true a1 L.key.length c1 L.ver) (bndO true a2 R.key.length c2 R.ver)
  have ez : (w.alloc (.cells (opA lv lt tt zt bl bt mt di) 32)).heap.size = w.heap.size + 1 := by simp
  rw [ez] at hb12
  generalize hW : ((w.alloc (.cells (opA lv lt tt zt bl bt mt di) 32)).alloc (bndO true a1 L.key.length c1 L.ver)).alloc (bndO true a2 R.key.length c2 R.ver) = W at *
  have HB1 := Lib.hid (fun (w' : World) (t : Tch [] W w') => bytesOf_any L a1 c1 w' lL oL (bL.tch (T.trans t)))
  have HB2 := Lib.hid (fun (w' : World) (t : Tch [] W w') => bytesOf_any R a2 c2 w' lR oR (bR.tch (T.trans t)))
  have HK1 := Lib.hid (fun (w' : World) (g : Nat) (h : RowB w' g (L.key.length + 8) (L.key.length + 8) (kb L)) => KeyOut.at h bL.u8 oL)
  have HK2 := Lib.hid (fun (w' : World) (g : Nat) (h : RowB w' g (R.key.length + 8) (R.key.length + 8) (kb R)) => KeyOut.at h bR.u8 oR)
  have HCL := Lib.hid (fun (w' : World) (t : Tch [] W w') => (show (_ ∧ _ ∧ _ ∧ _ ∧ _ ∧ _ ∧ _ ∧ _) ∧ _ ∧ _ from
    have one : ∀ i v, (opA lv lt tt zt bl bt mt di)[i]? = some v → w'.cell? ⟨w.heap.size, i, none⟩ = some v := fun i v hv => by rw [cell_of_row w' _ _ _ 32 (0, 0) (t.obj hb0 (by simp))]; exact hv
    ⟨⟨one 0 _ rfl, one 1 _ rfl, one 2 _ rfl, one 3 _ rfl, one 4 _ rfl, one 5 _ rfl, one 6 _ rfl, one 7 _ rfl⟩, bnd_cells (t.obj hb12.1 (by simp)), bnd_cells (t.obj hb12.2 (by simp))⟩))
  obtain ⟨⟨z0, z1, z2, z3, z4, z5, z6, z7⟩, ⟨x0, x1, x2⟩, y0, y1, y2⟩ := HCL.out W (Tch.refl _ _)
  have HW := Lib.hid hW
  have HT := Lib.hid T
  clear hb0 hb12 ez T h hsh hv hg h1 hj lL lR oL oR bL bR hW
  go_enter Try.func18, Try.ntmps18
  go_upto_region 1 with fail
  rw [HW.out]
  go_wp2_with fail
  go_region_held3 (fun w' => w'.cell? ⟨w.heap.size, 0, none⟩ = some (.int .i64 lv) ∧ w'.cell? ⟨w.heap.size, 1, none⟩ = some (.int .i64 lt) ∧ w'.cell? ⟨w.heap.size, 2, none⟩ = some (.int .i64 tt) ∧ w'.cell? ⟨w.heap.size, 3, none⟩ = some (.int .i64 zt) ∧ w'.cell? ⟨w.heap.size, 4, none⟩ = some (.int .i64 bl) ∧ w'.cell? ⟨w.heap.size, 5, none⟩ = some (.int .i64 bt) ∧ w'.cell? ⟨w.heap.size, 6, none⟩ = some (.int .i64 mt) ∧ w'.cell? ⟨w.heap.size, 7, none⟩ = some (.int .u64 di) ∧ w'.cell? ⟨w.heap.size + 1, 0, none⟩ = some (.bool true) ∧ w'.cell? ⟨w.heap.size + 1, 1, none⟩ = some (.slice a1 L.key.length c1) ∧ w'.cell? ⟨w.heap.size + 1, 2, none⟩ = some (.int .u64 L.ver) ∧ w'.cell? ⟨w.heap.size + 1 + 1, 0, none⟩ = some (.bool true) ∧ w'.cell? ⟨w.heap.size + 1 + 1, 1, none⟩ = some (.slice a2 R.key.length c2) ∧ w'.cell? ⟨w.heap.size + 1 + 1, 2, none⟩ = some (.int .u64 R.ver)) (go_keep)
    (first
      | (go_at_call 31; (with_reducible refine (HMD.out _ ?_).mono ?_); (refine HT.out.trans ?_; (repeat (first | exact Tch.refl _ _ | exact Hid.out (by assumption) | refine Tch.drew ?_))); rintro e w1 ⟨gL, rfl, q1, q2⟩
         have T1 : Tch [] W w1 := Tch.trans (by repeat (first | exact Tch.refl _ _ | exact Hid.out (by assumption) | refine Tch.drew ?_)) q2
         have M1 := Lib.hid q1
         clear z0 z1 z2 z3 z4 z5 z6 z7 x0 x1 x2 y0 y1 y2
         obtain ⟨⟨z0, z1, z2, z3, z4, z5, z6, z7⟩, ⟨x0, x1, x2⟩, y0, y1, y2⟩ := HCL.out w1 T1
         have HT1 := Lib.hid T1
         clear q1 q2 T1)
      | (go_at_call 29; (with_reducible refine (HB1.out _ ?_).mono ?_); (repeat (first | exact Tch.refl _ _ | exact Hid.out (by assumption) | refine Tch.drew ?_)); rintro e w2 ⟨g1, rfl, q1, q2, q3⟩
         have T2 : Tch [] W w2 := Tch.trans (by repeat (first | exact Tch.refl _ _ | exact Hid.out (by assumption) | refine Tch.drew ?_)) q3
         have D2 : Hid (Tch [] w1 w2) := Tch.trans (by repeat (first | exact Tch.refl _ _ | exact Hid.out (by assumption) | refine Tch.drew ?_)) q3
         have R1 := Lib.hid q1
         clear z0 z1 z2 z3 z4 z5 z6 z7 x0 x1 x2 y0 y1 y2
         obtain ⟨⟨z0, z1, z2, z3, z4, z5, z6, z7⟩, ⟨x0, x1, x2⟩, y0, y1, y2⟩ := HCL.out w2 T2
         have HT2 := Lib.hid T2
         clear q1 q2 q3 T2)
      | (go_at_call 29; (with_reducible refine (HB2.out _ ?_).mono ?_); (repeat (first | exact Tch.refl _ _ | exact Hid.out (by assumption) | refine Tch.drew ?_)); rintro e w3 ⟨g2, rfl, q1, q2, q3⟩
         have T3 : Tch [] W w3 := Tch.trans (by repeat (first | exact Tch.refl _ _ | exact Hid.out (by assumption) | refine Tch.drew ?_)) q3
         have D3 : Hid (Tch [] w2 w3) := Tch.trans (by repeat (first | exact Tch.refl _ _ | exact Hid.out (by assumption) | refine Tch.drew ?_)) q3
         have R2 := Lib.hid q1
         clear z0 z1 z2 z3 z4 z5 z6 z7 x0 x1 x2 y0 y1 y2
         obtain ⟨⟨z0, z1, z2, z3, z4, z5, z6, z7⟩, ⟨x0, x1, x2⟩, y0, y1, y2⟩ := HCL.out w3 T3
         have HT3 := Lib.hid T3
         clear q1 q2 q3 T3)
      | (go_at_call 38; refine (HOV.out gL g1 g2 _ ?_ ?_ ?_).mono ?_
         exact ((M1.out.tch D2.out).tch D3.out).tch (by repeat (first | exact Tch.refl _ _ | exact Hid.out (by assumption) | refine Tch.drew ?_))
         exact ((HK1.out _ _ R1.out).tch D3.out).tch (by repeat (first | exact Tch.refl _ _ | exact Hid.out (by assumption) | refine Tch.drew ?_))
         exact (HK2.out _ _ R2.out).tch (by repeat (first | exact Tch.refl _ _ | exact Hid.out (by assumption) | refine Tch.drew ?_))
         rintro e w4 ⟨rfl, q3⟩
         have T4 : Tch [] W w4 := HT3.out.trans (Tch.trans (by repeat (first | exact Tch.refl _ _ | exact Hid.out (by assumption) | refine Tch.drew ?_)) q3)
         clear z0 z1 z2 z3 z4 z5 z6 z7 x0 x1 x2 y0 y1 y2
         obtain ⟨⟨z0, z1, z2, z3, z4, z5, z6, z7⟩, ⟨x0, x1, x2⟩, y0, y1, y2⟩ := HCL.out w4 T4
         have HT4 := Lib.hid T4
         clear q3 T4))
  all_goals (go_wp2_with fail; go_ret2)
  all_goals exact ⟨rfl, HT.out.trans HT4.out⟩

end Go.Proofs.Ytdofgamahjmohaa
