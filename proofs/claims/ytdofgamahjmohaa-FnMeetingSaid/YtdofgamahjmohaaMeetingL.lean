/- FnMeeting returns true for all levels of tables, all options and all ranges: the tables of a level in order that meet a range of keys are told, from one on, and ahead of another one. No condition. -/
import Derived.Test.YtdofgamahjmohaaLwR
import Derived.Lib.SmallJoins
namespace Go.Proofs.Ytdofgamahjmohaa.fnMeeting
open Go.ChangeShapes Go.WideShapes Go.ChangeAt Go.RowKit Go.Deep Go.Joins
set_option maxRecDepth 100000

theorem own : ownKnob Try.prog.godebug = none := by kernel_rfl

theorem isR_true {t1 t2 : Bool} {k1 k2 : Kv} (h : isR t1 t2 k1 k2 = true) : t1 = true ∧ t2 = true := by
  simp only [isR, isB, Bool.and_eq_true, decide_eq_true_eq] at h
  exact ⟨h.1.1.1.1, h.1.2.1.1⟩

set_option maxHeartbeats 4000000 in
theorem walk (LL : List (List Tb)) (la : Option Addr) (c : Nat) (o : Op) (lvl : Int) (t1 t2 : Bool) (k1 k2 : Kv) (a1 a2 : Option Addr) (c1 c2 : Nat) (w : World) (h : LvAt w LL la c) (o1 : okV k1.ver) (o2 : okV k2.ver) (hb1 : By w k1.key a1 c1) (hb2 : By w k2.key a2 c2) :
    Calls Try.prog 6 #[.slice la LL.length c, opV o, .int .i64 lvl, bndV t1 a1 k1.key.length c1 k1.ver, bndV t2 a2 k2.key.length c2 k2.ver] w fun e w' => e = .returned (.bool true) ∧ Tch [] w w' := by
  have HF := Lib.hid (fun w' (t : Tch [] w w') => fits4_any LL la c w' (h.tch t))
  have HV := Lib.hid (fun w' (t : Tch [] w w') hs => valid_any LL la c o w' (h.tch t) hs)
  have HT := Lib.hid (fun w' (t : Tch [] w w') hs hv => targets_any LL la c o w' (h.tch t) hs hv)
  have HB := Lib.hid (fun b w' (t : Tch [] w w') hv hb => isBase_any LL la c o b w' (h.tch t) hv hb)
  have HI1 := Lib.hid (fun w' => zzFits3_any t1 a1 k1.key.length c1 k1.ver w')
  have HI2 := Lib.hid (fun w' => zzFits3_any t2 a2 k2.key.length c2 k2.ver w')
  have HR := Lib.hid (fun w' (t : Tch [] w w') l1 l2 => isRange_any t1 t2 k1 k2 a1 a2 c1 c2 w' l1 l2 (hb1.tch t) (hb2.tch t))
  have HM := Lib.hid (fun j w' (t : Tch [] w w') hs hv p1 p2 l1 l2 => meeting_any LL la c o j k1 k2 a1 a2 c1 c2 w' (h.tch t) hs hv p1 p2 l1 l2 o1 o2 (hb1.tch t) (hb2.tch t))
  have HLA := Lib.hid (fun w' (t : Tch [] w w') => h.tch t)
  have HSM := Lib.hid (fun ts ta tc w' (t : Tch [] w w') (ht : TabsAt w' ts ta tc) hs ho h30 l1 l2 => spec_Meeting_any ts ta tc k1 k2 a1 a2 c1 c2 w' ht hs ho h30 l1 l2 (hb1.tch t) (hb2.tch t))
  obtain ⟨lv, lt, tt, zt, bl, bt, mt, di⟩ := o
  have T : Tch [] w (((w.alloc (.cells (opA lv lt tt zt bl bt mt di) 32)).alloc (bndO t1 a1 k1.key.length c1 k1.ver)).alloc (bndO t2 a2 k2.key.length c2 k2.ver)) := (((Tch.refl _ _).alloc _).alloc _).alloc _
  have hb0 : (((w.alloc (.cells (opA lv lt tt zt bl bt mt di) 32)).alloc (bndO t1 a1 k1.key.length c1 k1.ver)).alloc (bndO t2 a2 k2.key.length c2 k2.ver)).heap[w.heap.size]? = some (.cells (opA lv lt tt zt bl bt mt di) 32 (0, 0)) := by
    have t : Tch [] (w.alloc (.cells (opA lv lt tt zt bl bt mt di) 32)) (((w.alloc (.cells (opA lv lt tt zt bl bt mt di) 32)).alloc (bndO t1 a1 k1.key.length c1 k1.ver)).alloc (bndO t2 a2 k2.key.length c2 k2.ver)) := ((Tch.refl _ _).alloc _).alloc _
    exact t.obj (alloc_at rfl) (by simp)
  have hb12 := box2 (w.alloc (.cells (opA lv lt tt zt bl bt mt di) 32)) (bndO t1 a1 k1.key.length c1 k1.ver) (bndO t2 a2 k2.key.length c2 k2.ver)
  have ez : (w.alloc (.cells (opA lv lt tt zt bl bt mt di) 32)).heap.size = w.heap.size + 1 := by simp
  rw [ez] at hb12
  generalize hW : ((w.alloc (.cells (opA lv lt tt zt bl bt mt di) 32)).alloc (bndO t1 a1 k1.key.length c1 k1.ver)).alloc (bndO t2 a2 k2.key.length c2 k2.ver) = W at *
  have HCL := Lib.hid (fun (w' : World) (t : Tch [] W w') => (show (_ ∧ _ ∧ _ ∧ _ ∧ _ ∧ _ ∧ _ ∧ _) ∧ _ ∧ _ from
    have one : ∀ i v, (opA lv lt tt zt bl bt mt di)[i]? = some v → w'.cell? ⟨w.heap.size, i, none⟩ = some v := fun i v hv => by rw [cell_of_row w' _ _ _ 32 (0, 0) (t.obj hb0 (by simp))]; exact hv
    ⟨⟨one 0 _ rfl, one 1 _ rfl, one 2 _ rfl, one 3 _ rfl, one 4 _ rfl, one 5 _ rfl, one 6 _ rfl, one 7 _ rfl⟩, bnd_cells (t.obj hb12.1 (by simp)), bnd_cells (t.obj hb12.2 (by simp))⟩))
  have HW := Lib.hid hW
  have HT0 := Lib.hid T
  have hl1 : decide (k1.key.length ≤ 2147483647) = true → k1.key.length ≤ 2147483647 := fun h => by simpa using h
  have hl2 : decide (k2.key.length ≤ 2147483647) = true → k2.key.length ≤ 2147483647 := fun h => by simpa using h
  have HL1 := Lib.hid hl1
  have HL2 := Lib.hid hl2
  generalize decide (k1.key.length ≤ 2147483647) = i1 at *
  generalize decide (k2.key.length ≤ 2147483647) = i2 at *
  obtain ⟨⟨z0, z1, z2, z3, z4, z5, z6, z7⟩, ⟨x0, x1, x2⟩, y0, y1, y2⟩ := HCL.out _ (Tch.refl _ _)
  clear hb0 hb12 ez T h hb1 hb2 o1 o2 hW hl1 hl2
  go_enter Try.func6, Try.ntmps6
  go_upto_region 1 with fail
  rw [HW.out]
  go_wp2_with fail
  refine (HF.out _ HT0.out).mono ?_
  rintro e w1 ⟨b1, rfl, k, t⟩
  have HK1 := Lib.hid k
  clear k
  have HT1 := Lib.hid (t)
  have HW1 := Lib.hid (HT0.out.trans HT1.out)
  clear t z0 z1 z2 z3 z4 z5 z6 z7 x0 x1 x2 y0 y1 y2
  obtain ⟨⟨z0, z1, z2, z3, z4, z5, z6, z7⟩, ⟨x0, x1, x2⟩, y0, y1, y2⟩ := HCL.out _ HT1.out
  cases b1 with
  | false =>
    go_wp2_with fail
    go_ret
    exact ⟨rfl, HW1.out⟩
  | true =>
  have HSH := Lib.hid (fun ts hts => ((HK1.out rfl).2 ts hts).2)
  go_wp2_with fail
  refine (HI1.out _).mono ?_
  rintro e w2 ⟨rfl, t⟩
  have HT2 := Lib.hid (HT1.out.trans t)
  have HW2 := Lib.hid (HT0.out.trans HT2.out)
  clear t z0 z1 z2 z3 z4 z5 z6 z7 x0 x1 x2 y0 y1 y2
  obtain ⟨⟨z0, z1, z2, z3, z4, z5, z6, z7⟩, ⟨x0, x1, x2⟩, y0, y1, y2⟩ := HCL.out _ HT2.out
  cases i1 with
  | false =>
    go_wp2_with fail
    go_ret
    exact ⟨rfl, HW2.out⟩
  | true =>
  have HLA1 := Lib.hid (HL1.out rfl)
  go_wp2_with fail
  refine (HI2.out _).mono ?_
  rintro e w3 ⟨rfl, t⟩
  have HT3 := Lib.hid (HT2.out.trans t)
  have HW3 := Lib.hid (HT0.out.trans HT3.out)
  clear t z0 z1 z2 z3 z4 z5 z6 z7 x0 x1 x2 y0 y1 y2
  obtain ⟨⟨z0, z1, z2, z3, z4, z5, z6, z7⟩, ⟨x0, x1, x2⟩, y0, y1, y2⟩ := HCL.out _ HT3.out
  cases i2 with
  | false =>
    go_wp2_with fail
    go_ret
    exact ⟨rfl, HW3.out⟩
  | true =>
  have HLA2 := Lib.hid (HL2.out rfl)
  go_wp2_with fail
  refine (HV.out _ HW3.out HSH.out).mono ?_
  rintro e w4 ⟨b2, rfl, k, t⟩
  have HK2 := Lib.hid k
  clear k
  have HT4 := Lib.hid (HT3.out.trans t)
  have HW4 := Lib.hid (HT0.out.trans HT4.out)
  clear t z0 z1 z2 z3 z4 z5 z6 z7 x0 x1 x2 y0 y1 y2
  obtain ⟨⟨z0, z1, z2, z3, z4, z5, z6, z7⟩, ⟨x0, x1, x2⟩, y0, y1, y2⟩ := HCL.out _ HT4.out
  cases b2 with
  | false =>
    go_wp2_with fail
    go_ret
    exact ⟨rfl, HW4.out⟩
  | true =>
  have HVA := Lib.hid (HK2.out rfl)
  by_cases q1 : lvl < 1
  · have e1 : decide (lvl < 1) = true := by simpa using q1
    go_wp2_with fail
    go_ret
    exact ⟨rfl, HW4.out⟩
  have e1 : decide (lvl < 1) = false := by simpa using q1
  by_cases q2 : (LL.length : Int) ≤ lvl
  · have e2 : decide ((LL.length : Int) ≤ lvl) = true := by simpa using q2
    clear q1
    go_wp2_with fail
    go_ret
    exact ⟨rfl, HW4.out⟩
  have e2 : decide ((LL.length : Int) ≤ lvl) = false := by simpa using q2
  obtain ⟨j, rfl⟩ : ∃ j : Nat, lvl = j := ⟨lvl.toNat, by omega⟩
  have hj1 : 1 ≤ j := by omega
  have hj2 : j < LL.length := by omega
  have hj3 : (j : Int) < LL.length := by omega
  have HJ1 := Lib.hid hj1
  have HJ2 := Lib.hid hj2
  have hr := @isR_true t1 t2 k1 k2
  have HIR := Lib.hid hr
  clear q1 q2 hj1 hj2 hr
  have HR2 := Lib.hid (HR.out _ HW4.out HLA1.out HLA2.out)
  generalize isR t1 t2 k1 k2 = ir at *
  go_wp2_with fail
  refine (HR2.out).mono ?_
  rintro e w5 ⟨rfl, t⟩
  have HT5 := Lib.hid (HT4.out.trans t)
  have HW5 := Lib.hid (HT0.out.trans HT5.out)
  clear t z0 z1 z2 z3 z4 z5 z6 z7 x0 x1 x2 y0 y1 y2
  obtain ⟨⟨z0, z1, z2, z3, z4, z5, z6, z7⟩, ⟨x0, x1, x2⟩, y0, y1, y2⟩ := HCL.out _ HT5.out
  cases ir with
  | false =>
    go_wp2_with fail
    go_ret
    exact ⟨rfl, HW5.out⟩
  | true =>
  have hir := HIR.out rfl
  obtain ⟨rfl, rfl⟩ := hir
  have HM2 := Lib.hid (HM.out j _ HW5.out HSH.out HVA.out HJ1.out HJ2.out HLA1.out HLA2.out)
  have hmem : LL.getD j [] ∈ LL := by have := HJ2.out; simp [List.getD, List.getElem?_eq_getElem this]
  have ho : ∀ i, i < (LL.getD j []).length → OrdAt false (LL.getD j []) i := fun i hi => by
    have := HVA.out.ord.ord j HJ2.out i hi
    rw [show decide (j = 0) = false from decide_eq_false (by have := HJ1.out; omega)] at this
    exact this
  have h30 := HVA.out.few _ hmem
  have hts := HSH.out _ hmem
  cases la with
  | none => have := ((HLA.out _ HW5.out).nil rfl).2; have h2 := HJ2.out; rw [this] at h2; simp at h2
  | some ad =>
  have hat : ∀ w', Tch [] w w' → ∃ ta tc, w'.cell? (ad.add j) = some (.slice ta (LL.getD j []).length tc) ∧ TabsAt w' (LL.getD j []) ta tc := fun w' t => ((HLA.out w' t).at' ad rfl j HJ2.out).2
  obtain ⟨ta, tc, hu, hv⟩ := hat w (Tch.refl _ _)
  have hub : ad.block < w.heap.size := ((HLA.out w (Tch.refl _ _)).at' ad rfl j HJ2.out).1
  have HU := Lib.hid (fun w' (t : Tch [] w w') => (t.cell (p := ad.add j) (by rw [add_block]; exact hub) (by simp)).trans hu)
  have HSM2 := Lib.hid (fun w' (t : Tch [] w w') => HSM.out (LL.getD j []) ta tc w' t (hv.tch t) hts ho h30 HLA1.out HLA2.out)
  generalize mFrom (LL.getD j []) k1 = mf at *
  generalize mTo (LL.getD j []) k2 = mt' at *
  generalize (LL.getD j []).length = nl at *
  clear hmem ho h30 hts hat hu hv hub HSM HM
  go_wp2_with fail
  refine (HM2.out).mono ?_
  rintro e w6 ⟨rfl, t⟩
  have HT6 := Lib.hid (HT5.out.trans t)
  have HW6 := Lib.hid (HT0.out.trans HT6.out)
  clear t z0 z1 z2 z3 z4 z5 z6 z7 x0 x1 x2 y0 y1 y2
  obtain ⟨⟨z0, z1, z2, z3, z4, z5, z6, z7⟩, ⟨x0, x1, x2⟩, y0, y1, y2⟩ := HCL.out _ HT6.out
  go_upto_region 6 with fail
  have hu := HU.out _ HW6.out
  go_region_held3 (fun w' => w'.cell? (ad.add j) = some (.slice ta nl tc) ∧ w'.cell? ⟨w.heap.size + 1, 0, none⟩ = some (.bool true) ∧ w'.cell? ⟨w.heap.size + 1, 1, none⟩ = some (.slice a1 k1.key.length c1) ∧ w'.cell? ⟨w.heap.size + 1, 2, none⟩ = some (.int .u64 k1.ver) ∧ w'.cell? ⟨w.heap.size + 1 + 1, 0, none⟩ = some (.bool true) ∧ w'.cell? ⟨w.heap.size + 1 + 1, 1, none⟩ = some (.slice a2 k2.key.length c2) ∧ w'.cell? ⟨w.heap.size + 1 + 1, 2, none⟩ = some (.int .u64 k2.ver)) (go_keep)
    (first
      | (go_at_call 19; (with_reducible refine (HSM2.out _ ?_).mono ?_); (refine HW6.out.trans ?_; (repeat (first | exact Tch.refl _ _ | exact Hid.out (by assumption) | refine Tch.drew ?_))); rintro e w7 ⟨rfl, t⟩
         have HT7 : Hid (Tch [] W w7) := HT6.out.trans (Tch.trans (by repeat (first | exact Tch.refl _ _ | exact Hid.out (by assumption) | refine Tch.drew ?_)) t)
         have HW7 := Lib.hid (HT0.out.trans HT7.out)
         clear t z0 z1 z2 z3 z4 z5 z6 z7 x0 x1 x2 y0 y1 y2 hu
         have hu := HU.out _ HW7.out
         obtain ⟨⟨z0, z1, z2, z3, z4, z5, z6, z7⟩, ⟨x0, x1, x2⟩, y0, y1, y2⟩ := HCL.out _ HT7.out))
  all_goals (go_wp2_with (first
    | (go_at_call 14; refine (HT.out _ HW7.out HSH.out HVA.out).mono ?_; rintro e w8 ⟨b, p1, p2, e3, e4, rfl, q1, q2, q3, t⟩; have HQ3 := Lib.hid q3; have HT8 := Lib.hid (HT7.out.trans t); have HW8 := Lib.hid (HW7.out.trans t); clear q1 q2 q3 t z0 z1 z2 z3 z4 z5 z6 z7 x0 x1 x2 y0 y1 y2 hu; obtain ⟨⟨z0, z1, z2, z3, z4, z5, z6, z7⟩, ⟨x0, x1, x2⟩, y0, y1, y2⟩ := HCL.out _ HT8.out)
    | (go_at_call 20; refine (HB.out b _ HW8.out HVA.out HQ3.out).mono ?_; rintro e w9 ⟨rfl, t⟩; have HW9 := Lib.hid (HW8.out.trans t); clear t)))
  all_goals (go_ret; exact ⟨rfl, HW9.out⟩)

theorem tsize : Try.prog.types.size = 207 := by kernel_rfl

/-! ### The row's step -/
theorem lifted (os : Os) (started : os.Started) (H : Type) (enc : TypeId × Value → H) :
    ReturnsInHanded {} Try.checked os 6 .any (Rows.fnMeetingSpec.pre6 enc Try.prog Try.f6 Rows.fnMeetingRow.domain false) (Rows.fnMeetingSpec.post enc Try.prog Try.f6 false true false false) := by
  refine returnsInHanded_of_change (C := Try.checked) own started (by kernel_rfl) Try.func6
    (ChangeSpec.witness6 (enc := enc) (C := Try.checked) false ⟨#[], #[.slice none 0 0, .agg #[.int .i64 0, .int .i64 0, .int .i64 0, .int .i64 0, .int .i64 0, .int .i64 0, .int .i64 0, .int .u64 0], .int .i64 0, .agg #[.bool false, .slice none 0 0, .int .u64 0], .agg #[.bool false, .slice none 0 0, .int .u64 0]], []⟩ 8 (by kernel_rfl) (by kernel_rfl) (by kernel_rfl) (by kernel_rfl)) ?_
  intro W base args ds gs before hval0 hW hcnd _
  have hval : ∀ (j : Nat) t v, Try.f6.params[j]? = some t → args[j]? = some v → Value.okWide Try.prog W .any base t v := hval0
  have hW' := hW
  obtain ⟨p, q, hA0, hV, rfl, hfz, hnd⟩ := hW
  have hA : DataW.TrodAll enc Try.prog W 0 (fun _ => true) true Try.f6.params.toList args.toList ds p := hA0
  have hA1 := hA
  rw [Try.params6] at hA1 hval
  obtain ⟨v0, vs0, d0, ds0, p0, q0, hargs, rfl, rfl, h0, r0⟩ := trodAll_cons hA1
  obtain ⟨v1, vs1, d1, ds1, p1, q1, rfl, rfl, rfl, h1, r1⟩ := trodAll_cons r0
  obtain ⟨v2, vs2, d2, ds2, p2, q2, rfl, rfl, rfl, h2, r2⟩ := trodAll_cons r1
  obtain ⟨v3, vs3, d3, ds3, p3, q3, rfl, rfl, rfl, h3, r3⟩ := trodAll_cons r2
  obtain ⟨v4, vs4, d4, ds4, p4, q4, rfl, rfl, rfl, h4, r4⟩ := trodAll_cons r3
  obtain ⟨rfl, rfl, rfl⟩ := trodAll_nil r4
  obtain rfl : args = #[v0, v1, v2, v3, v4] := by cases args; simp_all
  obtain ⟨rfl, rfl⟩ := trodVars_none hV
  obtain ⟨fuel0, hf0⟩ := h0
  obtain ⟨a0, l0, c0, rfl⟩ := okWide_slice Try.underlying30 (hval 0 30 v0 rfl rfl)
  obtain ⟨la, LL, cz, e, hu⟩ := open_levels hf0
  simp only [Value.cells, List.cons.injEq, and_true, Value.slice.injEq] at e
  obtain ⟨rfl, rfl, rfl⟩ := e
  obtain ⟨o, rfl⟩ := open_opt (hval 1 32 v1 rfl rfl) h1
  obtain ⟨lvl, rfl⟩ := okWide_int Try.underlying3 (hval 2 3 v2 rfl rfl)
  obtain ⟨t1, a1, k1, c1, rfl, b1, o1⟩ := open_bound (hval 3 25 v3 rfl rfl) h3
  obtain ⟨t2, a2, k2, c2, rfl, b2, o2⟩ := open_bound (hval 4 25 v4 rfl rfl) h4
  refine (walk LL a0 c0 o lvl t1 t2 k1 k2 a1 a2 c1 c2 W hu o1 o2 b1 b2).mono fun e W' ⟨he, hg⟩ => ?_
  subst he
  rw [List.append_nil] at hW'
  exact ⟨_, rfl, post_law rfl 4 Try.underlying4 rfl rfl Try.kids Try.full (by
    rw [Try.params6]
    intro t ht
    show t < Try.prog.types.size
    rw [tsize]
    have ht : t ∈ [30, 32, 3, 25, 25] := ht
    simp only [List.mem_cons, List.not_mem_nil, or_false] at ht
    rcases ht with rfl | rfl | rfl | rfl | rfl <;> exact Nat.lt_of_sub_pos (by decide)) hW' hA hg⟩

theorem over : Rows.fnMeetingRow.holds Try.pinned (OpenSpec.ofChange Rows.fnMeetingSpec) :=
  OpenClaim.holds_of_wide 6 Try.f6 rfl rfl rfl rfl rfl rfl rfl ⟨rfl, rfl, rfl, rfl, rfl⟩ rfl rfl rfl rfl rfl (by kernel_rfl) Try.func6 (by kernel_rfl)
    (of_decide_eq_true (by kernel_rfl)) (by unfold Func.isWrapper; first | (rw [if_pos (by decide +kernel)]; kernel_rfl) | (rw [if_neg (by decide +kernel)]; exact ⟨rfl, rfl⟩))
    (fun os started H enc _ => lifted os started H enc)

/-- The statement. -/
theorem proved : Rows.FnMeetingSaid :=
  over
#print axioms proved
end Go.Proofs.Ytdofgamahjmohaa.fnMeeting
