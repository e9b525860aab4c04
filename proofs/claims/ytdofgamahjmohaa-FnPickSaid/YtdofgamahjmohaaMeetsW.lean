/- impl.Meets and spec.IsRange. -/
import Derived.Test.YtdofgamahjmohaaKeyZ
namespace Go.Proofs.Ytdofgamahjmohaa
open Go.RowKit
set_option maxRecDepth 100000

/-- A bound's box. -/
abbrev bndO (t : Bool) (a : Option Addr) (n c : Nat) (v : Int) : Obj := .cells #[.bool t, .slice a n c, .int .u64 v] 25
theorem bnd_cells {w : World} {b : Nat} {t : Bool} {a : Option Addr} {n c : Nat} {v : Int} (h : w.heap[b]? = some (bndO t a n c v)) :
    w.cell? ⟨b, 0, none⟩ = some (.bool t) ∧ w.cell? ⟨b, 1, none⟩ = some (.slice a n c) ∧ w.cell? ⟨b, 2, none⟩ = some (.int .u64 v) := by
  refine ⟨?_, ?_, ?_⟩
  all_goals (rw [cell_of_row w _ _ _ 25 (0, 0) h]; rfl)

def isR (t1 t2 : Bool) (k1 k2 : Kv) : Bool := isB t1 k1.key.length && isB t2 k2.key.length && decide (kcmp k1 k2 ≤ 0)

set_option maxHeartbeats 1000000 in
theorem isRange_any (t1 t2 : Bool) (k1 k2 : Kv) (a b : Option Addr) (c d : Nat) (w : World) (hl : k1.key.length ≤ 2147483647) (hm : k2.key.length ≤ 2147483647) (h : By w k1.key a c) (k : By w k2.key b d) :
    Calls Try.prog 9 #[bndV t1 a k1.key.length c k1.ver, bndV t2 b k2.key.length d k2.ver] w fun e w' => e = .returned (.bool (isR t1 t2 k1 k2)) ∧ Tch [] w w' := by
  have hr : isR t1 t2 k1 k2 = (isB t1 k1.key.length && isB t2 k2.key.length && decide (kcmp k1 k2 ≤ 0)) := rfl
  have T : Tch [] w ((w.alloc (bndO t1 a k1.key.length c k1.ver)).alloc (bndO t2 b k2.key.length d k2.ver)) := ((Tch.refl _ _).alloc _).alloc _
  have hb := box2 w (bndO t1 a k1.key.length c k1.ver) (bndO t2 b k2.key.length d k2.ver)
  have HC := Lib.hid (fun (w' : World) (t : Tch [] w w') => spec_order_any t1 t2 k1 k2 a b c d w' hl hm (h.tch t) (k.tch t))
  generalize isR t1 t2 k1 k2 = r at *
  generalize k1.key.length = n1 at *
  generalize k2.key.length = n2 at *
  generalize k1.ver = v1 at *
  generalize k2.ver = v2 at *
  generalize kcmp k1 k2 = x at *
  have HI1 := Lib.hid (fun w' => spec_isBound_any t1 a n1 c v1 w')
  have HI2 := Lib.hid (fun w' => spec_isBound_any t2 b n2 d v2 w')
  generalize isB t1 n1 = i1 at *
  generalize isB t2 n2 = i2 at *
  have HT := Lib.hid T
  have HCL := Lib.hid (fun (w' : World) (t : Tch [] ((w.alloc (bndO t1 a n1 c v1)).alloc (bndO t2 b n2 d v2)) w') => (⟨bnd_cells (t.obj hb.1 (by simp)), bnd_cells (t.obj hb.2 (by simp))⟩ : _ ∧ _))
  clear T hb h k
  go_enter Try.func9, Try.ntmps9
  go_wp2_with fail
  refine (HI1.out _).mono ?_
  rintro e w1 ⟨rfl, t⟩
  obtain ⟨⟨x0, x1, x2⟩, y0, y1, y2⟩ := HCL.out w1 t
  have HT1 := Lib.hid t
  clear t
  cases i1 with
  | false =>
    have HR := Lib.hid (show r = false by rw [hr]; rfl)
    clear hr
    go_wp2_with fail
    go_ret
    exact ⟨by rw [HR.out]; rfl, HT.out.trans HT1.out⟩
  | true =>
    go_wp2_with fail
    refine (HI2.out _).mono ?_
    rintro e w2 ⟨rfl, t⟩
    have HT2 := Lib.hid (HT1.out.trans t)
    clear x0 x1 x2 y0 y1 y2 t
    obtain ⟨⟨x0, x1, x2⟩, y0, y1, y2⟩ := HCL.out w2 HT2.out
    cases i2 with
    | false =>
      have HR := Lib.hid (show r = false by rw [hr]; rfl)
      clear hr
      go_wp2_with fail
      go_ret
      exact ⟨by rw [HR.out]; rfl, HT.out.trans HT2.out⟩
    | true =>
      go_wp2_with fail
      refine (HC.out _ (HT.out.trans HT2.out)).mono ?_
      rintro e w3 ⟨rfl, t⟩
      have HT3 := Lib.hid (HT2.out.trans t)
      clear x0 x1 x2 y0 y1 y2 t
      by_cases hx : x ≤ 0
      · have HR := Lib.hid (show r = true by rw [hr]; simpa using hx)
        clear hr
        go_wp2_with fail
        go_ret
        exact ⟨by rw [HR.out]; rfl, HT.out.trans HT3.out⟩
      · have t0 : decide (x ≤ 0) = false := by simpa using hx
        have HR := Lib.hid (show r = false by rw [hr]; simpa using hx)
        clear hr hx
        go_wp2_with fail
        go_ret
        exact ⟨by rw [HR.out]; rfl, HT.out.trans HT3.out⟩

theorem KeyOut.at {w' : World} {k : Kv} {g : Nat} (h : RowB w' g (k.key.length + 8) (k.key.length + 8) (kb k)) (hu : ∀ x ∈ k.key, 0 ≤ x ∧ x < 256) (hv : okV k.ver) : KeyAt w' k g (k.key.length + 8) := ⟨h.by (kb_u8 hu hv), hv⟩

set_option maxHeartbeats 4000000 in
theorem implMeets_any (k1 k2 k3 k4 : Kv) (a1 a2 a3 a4 : Option Addr) (c1 c2 c3 c4 : Nat) (i1 i2 : Bool) (w : World) (l1 : k1.key.length ≤ 2147483647) (l2 : k2.key.length ≤ 2147483647) (l3 : k3.key.length ≤ 2147483647) (l4 : k4.key.length ≤ 2147483647)
    (o1 : okV k1.ver) (o2 : okV k2.ver) (o3 : okV k3.ver) (o4 : okV k4.ver) (h1 : By w k1.key a1 c1) (h2 : By w k2.key a2 c2) (h3 : By w k3.key a3 c3) (h4 : By w k4.key a4 c4) :
    Calls Try.prog 11 #[bndV true a1 k1.key.length c1 k1.ver, bndV true a2 k2.key.length c2 k2.ver, .bool i1, bndV true a3 k3.key.length c3 k3.ver, bndV true a4 k4.key.length c4 k4.ver, .bool i2] w
      fun e w' => e = .returned (.bool (meetB k1 k2 i1 k3 k4 i2)) ∧ Tch [] w w' := by
  have T : Tch [] w ((((w.alloc (bndO true a1 k1.key.length c1 k1.ver)).alloc (bndO true a2 k2.key.length c2 k2.ver)).alloc (bndO true a3 k3.key.length c3 k3.ver)).alloc (bndO true a4 k4.key.length c4 k4.ver)) := ((((Tch.refl _ _).alloc _).alloc _).alloc _).alloc _
  have hb1 := box2 w (bndO true a1 k1.key.length c1 k1.ver) (bndO true a2 k2.key.length c2 k2.ver)
  have hb2 := box2 ((w.alloc (bndO true a1 k1.key.length c1 k1.ver)).alloc (bndO true a2 k2.key.length c2 k2.ver)) (bndO true a3 k3.key.length c3 k3.ver) (bndO true a4 k4.key.length c4 k4.ver)
  have ez : ((w.alloc (bndO true a1 k1.key.length c1 k1.ver)).alloc (bndO true a2 k2.key.length c2 k2.ver)).heap.size = w.heap.size + 2 := by simp
  rw [ez] at hb2
  have e2 : w.heap.size + 2 = w.heap.size + 1 + 1 := rfl
  rw [e2] at hb2
  have hb1' : ((((w.alloc (bndO true a1 k1.key.length c1 k1.ver)).alloc (bndO true a2 k2.key.length c2 k2.ver)).alloc (bndO true a3 k3.key.length c3 k3.ver)).alloc (bndO true a4 k4.key.length c4 k4.ver)).heap[w.heap.size]? = some (bndO true a1 k1.key.length c1 k1.ver) ∧
      ((((w.alloc (bndO true a1 k1.key.length c1 k1.ver)).alloc (bndO true a2 k2.key.length c2 k2.ver)).alloc (bndO true a3 k3.key.length c3 k3.ver)).alloc (bndO true a4 k4.key.length c4 k4.ver)).heap[w.heap.size + 1]? = some (bndO true a2 k2.key.length c2 k2.ver) := by
    have t : Tch [] ((w.alloc (bndO true a1 k1.key.length c1 k1.ver)).alloc (bndO true a2 k2.key.length c2 k2.ver)) ((((w.alloc (bndO true a1 k1.key.length c1 k1.ver)).alloc (bndO true a2 k2.key.length c2 k2.ver)).alloc (bndO true a3 k3.key.length c3 k3.ver)).alloc (bndO true a4 k4.key.length c4 k4.ver)) := ((Tch.refl _ _).alloc _).alloc _
    exact ⟨t.obj hb1.1 (by simp), t.obj hb1.2 (by simp)⟩
  generalize hW : (((w.alloc (bndO true a1 k1.key.length c1 k1.ver)).alloc (bndO true a2 k2.key.length c2 k2.ver)).alloc (bndO true a3 k3.key.length c3 k3.ver)).alloc (bndO true a4 k4.key.length c4 k4.ver) = W at *
  have HB1 := Lib.hid (fun (w' : World) (t : Tch [] W w') => bytesOf_any k1 a1 c1 w' l1 o1 (h1.tch (T.trans t)))
  have HB2 := Lib.hid (fun (w' : World) (t : Tch [] W w') => bytesOf_any k2 a2 c2 w' l2 o2 (h2.tch (T.trans t)))
  have HB3 := Lib.hid (fun (w' : World) (t : Tch [] W w') => bytesOf_any k3 a3 c3 w' l3 o3 (h3.tch (T.trans t)))
  have HB4 := Lib.hid (fun (w' : World) (t : Tch [] W w') => bytesOf_any k4 a4 c4 w' l4 o4 (h4.tch (T.trans t)))
  have HM := Lib.hid (fun (g1 g2 g3 g4 : Nat) (w' : World) (q1 : KeyAt w' k1 g1 (k1.key.length + 8)) (q2 : KeyAt w' k2 g2 (k2.key.length + 8)) (q3 : KeyAt w' k3 g3 (k3.key.length + 8)) (q4 : KeyAt w' k4 g4 (k4.key.length + 8)) => meets_any k1 k2 k3 k4 g1 _ g2 _ g3 _ g4 _ i1 i2 w' l1 l2 l3 l4 q1 q2 q3 q4)
  have HK1 := Lib.hid (fun (w' : World) (g : Nat) (h : RowB w' g (k1.key.length + 8) (k1.key.length + 8) (kb k1)) => KeyOut.at h h1.u8 o1)
  have HK2 := Lib.hid (fun (w' : World) (g : Nat) (h : RowB w' g (k2.key.length + 8) (k2.key.length + 8) (kb k2)) => KeyOut.at h h2.u8 o2)
  have HK3 := Lib.hid (fun (w' : World) (g : Nat) (h : RowB w' g (k3.key.length + 8) (k3.key.length + 8) (kb k3)) => KeyOut.at h h3.u8 o3)
  have HK4 := Lib.hid (fun (w' : World) (g : Nat) (h : RowB w' g (k4.key.length + 8) (k4.key.length + 8) (kb k4)) => KeyOut.at h h4.u8 o4)
  have HCL := Lib.hid (fun (w' : World) (t : Tch [] W w') => (⟨bnd_cells (t.obj hb1'.1 (by simp)), bnd_cells (t.obj hb1'.2 (by simp)), bnd_cells (t.obj hb2.1 (by simp)), bnd_cells (t.obj hb2.2 (by simp))⟩ : _ ∧ _ ∧ _ ∧ _))
  obtain ⟨⟨x0, x1, x2⟩, ⟨y0, y1, y2⟩, ⟨z0, z1, z2⟩, u0, u1, u2⟩ := HCL.out W (Tch.refl _ _)
  have HW := Lib.hid hW
  have HT := Lib.hid T
  clear hb1 hb1' hb2 ez T h1 h2 h3 h4 o1 o2 o3 o4 l1 l2 l3 l4 hW
  go_enter Try.func11, Try.ntmps11
  go_upto_region 1 with fail
  rw [HW.out]
  go_wp2_with fail
  go_region_held3 (fun w' => w'.cell? ⟨w.heap.size, 0, none⟩ = some (.bool true) ∧ w'.cell? ⟨w.heap.size, 1, none⟩ = some (.slice a1 k1.key.length c1) ∧ w'.cell? ⟨w.heap.size, 2, none⟩ = some (.int .u64 k1.ver) ∧ w'.cell? ⟨w.heap.size + 1, 0, none⟩ = some (.bool true) ∧ w'.cell? ⟨w.heap.size + 1, 1, none⟩ = some (.slice a2 k2.key.length c2) ∧ w'.cell? ⟨w.heap.size + 1, 2, none⟩ = some (.int .u64 k2.ver) ∧ w'.cell? ⟨w.heap.size + 1 + 1, 0, none⟩ = some (.bool true) ∧ w'.cell? ⟨w.heap.size + 1 + 1, 1, none⟩ = some (.slice a3 k3.key.length c3) ∧ w'.cell? ⟨w.heap.size + 1 + 1, 2, none⟩ = some (.int .u64 k3.ver) ∧ w'.cell? ⟨w.heap.size + 1 + 1 + 1, 0, none⟩ = some (.bool true) ∧ w'.cell? ⟨w.heap.size + 1 + 1 + 1, 1, none⟩ = some (.slice a4 k4.key.length c4) ∧ w'.cell? ⟨w.heap.size + 1 + 1 + 1, 2, none⟩ = some (.int .u64 k4.ver)) (go_keep)
    (first
      | (go_at_call 29; (with_reducible refine (HB1.out _ ?_).mono ?_); (repeat (first | exact Tch.refl _ _ | exact Hid.out (by assumption) | refine Tch.drew ?_)); rintro e w1 ⟨g1, rfl, q1, q2, q3⟩
         have T1 : Tch [] W w1 := Tch.trans (by repeat (first | exact Tch.refl _ _ | exact Hid.out (by assumption) | refine Tch.drew ?_)) q3
         have R1 := Lib.hid q1
         clear x0 x1 x2 y0 y1 y2 z0 z1 z2 u0 u1 u2
         obtain ⟨⟨x0, x1, x2⟩, ⟨y0, y1, y2⟩, ⟨z0, z1, z2⟩, u0, u1, u2⟩ := HCL.out w1 T1
         have HT1 := Lib.hid T1
         clear q1 q2 q3 T1)
      | (go_at_call 29; (with_reducible refine (HB2.out _ ?_).mono ?_); (repeat (first | exact Tch.refl _ _ | exact Hid.out (by assumption) | refine Tch.drew ?_)); rintro e w2 ⟨g2, rfl, q1, q2, q3⟩
         have T2 : Tch [] W w2 := Tch.trans (by repeat (first | exact Tch.refl _ _ | exact Hid.out (by assumption) | refine Tch.drew ?_)) q3
         have D2 : Hid (Tch [] w1 w2) := Tch.trans (by repeat (first | exact Tch.refl _ _ | exact Hid.out (by assumption) | refine Tch.drew ?_)) q3
         have R2 := Lib.hid q1
         clear x0 x1 x2 y0 y1 y2 z0 z1 z2 u0 u1 u2
         obtain ⟨⟨x0, x1, x2⟩, ⟨y0, y1, y2⟩, ⟨z0, z1, z2⟩, u0, u1, u2⟩ := HCL.out w2 T2
         have HT2 := Lib.hid T2
         clear q1 q2 q3 T2)
      | (go_at_call 29; (with_reducible refine (HB3.out _ ?_).mono ?_); (repeat (first | exact Tch.refl _ _ | exact Hid.out (by assumption) | refine Tch.drew ?_)); rintro e w3 ⟨g3, rfl, q1, q2, q3⟩
         have T3 : Tch [] W w3 := Tch.trans (by repeat (first | exact Tch.refl _ _ | exact Hid.out (by assumption) | refine Tch.drew ?_)) q3
         have D3 : Hid (Tch [] w2 w3) := Tch.trans (by repeat (first | exact Tch.refl _ _ | exact Hid.out (by assumption) | refine Tch.drew ?_)) q3
         have R3 := Lib.hid q1
         clear x0 x1 x2 y0 y1 y2 z0 z1 z2 u0 u1 u2
         obtain ⟨⟨x0, x1, x2⟩, ⟨y0, y1, y2⟩, ⟨z0, z1, z2⟩, u0, u1, u2⟩ := HCL.out w3 T3
         have HT3 := Lib.hid T3
         clear q1 q2 q3 T3)
      | (go_at_call 29; (with_reducible refine (HB4.out _ ?_).mono ?_); (repeat (first | exact Tch.refl _ _ | exact Hid.out (by assumption) | refine Tch.drew ?_)); rintro e w4 ⟨g4, rfl, q1, q2, q3⟩
         have T4 : Tch [] W w4 := Tch.trans (by repeat (first | exact Tch.refl _ _ | exact Hid.out (by assumption) | refine Tch.drew ?_)) q3
         have D4 : Hid (Tch [] w3 w4) := Tch.trans (by repeat (first | exact Tch.refl _ _ | exact Hid.out (by assumption) | refine Tch.drew ?_)) q3
         have R4 := Lib.hid q1
         clear x0 x1 x2 y0 y1 y2 z0 z1 z2 u0 u1 u2
         obtain ⟨⟨x0, x1, x2⟩, ⟨y0, y1, y2⟩, ⟨z0, z1, z2⟩, u0, u1, u2⟩ := HCL.out w4 T4
         have HT4 := Lib.hid T4
         clear q1 q2 q3 T4)
      | (go_at_call 28; refine (HM.out g1 g2 g3 g4 _ ?_ ?_ ?_ ?_).mono ?_
         exact ((((HK1.out _ _ R1.out).tch D2.out).tch D3.out).tch D4.out).tch (by repeat (first | exact Tch.refl _ _ | exact Hid.out (by assumption) | refine Tch.drew ?_))
         exact (((HK2.out _ _ R2.out).tch D3.out).tch D4.out).tch (by repeat (first | exact Tch.refl _ _ | exact Hid.out (by assumption) | refine Tch.drew ?_))
         exact ((HK3.out _ _ R3.out).tch D4.out).tch (by repeat (first | exact Tch.refl _ _ | exact Hid.out (by assumption) | refine Tch.drew ?_))
         exact (HK4.out _ _ R4.out).tch (by repeat (first | exact Tch.refl _ _ | exact Hid.out (by assumption) | refine Tch.drew ?_))
         rintro e w5 ⟨rfl, q3⟩
         have T5 : Tch [] W w5 := HT4.out.trans (Tch.trans (by repeat (first | exact Tch.refl _ _ | exact Hid.out (by assumption) | refine Tch.drew ?_)) q3)
         clear x0 x1 x2 y0 y1 y2 z0 z1 z2 u0 u1 u2
         obtain ⟨⟨x0, x1, x2⟩, ⟨y0, y1, y2⟩, ⟨z0, z1, z2⟩, u0, u1, u2⟩ := HCL.out w5 T5
         have HT5 := Lib.hid T5
         clear q3 T5))
  all_goals (go_wp2_with fail; go_ret)
  all_goals exact ⟨rfl, HT.out.trans HT5.out⟩

end Go.Proofs.Ytdofgamahjmohaa
