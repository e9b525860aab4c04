/- FnTargets returns true for all levels of tables and all options: the sizes that levels should have, the base level, and the sizes of tables are as the reference has them, wherever the levels are as told. No condition. -/
import Derived.Test.YtdofgamahjmohaaLwL
import Derived.Lib.SmallJoins
namespace Go.Proofs.Ytdofgamahjmohaa.fnTargets
open Go.ChangeShapes Go.WideShapes Go.ChangeAt Go.RowKit Go.Deep Go.Joins
set_option maxRecDepth 100000

theorem own : ownKnob Try.prog.godebug = none := by kernel_rfl

set_option maxHeartbeats 1000000 in
theorem walk (LL : List (List Tb)) (la : Option Addr) (c : Nat) (o : Op) (w : World) (h : LvAt w LL la c) :
    Calls Try.prog 4 #[.slice la LL.length c, opV o] w fun e w' => e = .returned (.bool true) ∧ Tch [] w w' := by
  have HF := Lib.hid (fun w' (t : Tch [] w w') => fits4_any LL la c w' (h.tch t))
  have HV := Lib.hid (fun w' (t : Tch [] w w') hs => valid_any LL la c o w' (h.tch t) hs)
  have HT := Lib.hid (fun w' (t : Tch [] w w') hs hv => targets_any LL la c o w' (h.tch t) hs hv)
  have HA := Lib.hid (fun b a1 a2 c1 c2 w' (t : Tch [] w w') hv hb h1 h2 => areTargets_any LL la c o b a1 a2 c1 c2 w' (h.tch t) hv hb h1 h2)
  obtain ⟨lv, lt, tt, zt, bl, bt, mt, di⟩ := o
  have HT0 := Lib.hid ((Tch.refl [] w).alloc (.cells (opA lv lt tt zt bl bt mt di) 32))
  have HBX := Lib.hid (fun (w' : World) (t : Tch [] (w.alloc (.cells (opA lv lt tt zt bl bt mt di) 32)) w') => (show _ ∧ _ ∧ _ ∧ _ ∧ _ ∧ _ ∧ _ ∧ _ from
    have hb := t.obj (alloc_at (w := w) (o := .cells (opA lv lt tt zt bl bt mt di) 32) rfl) (by simp)
    have one : ∀ i v, (opA lv lt tt zt bl bt mt di)[i]? = some v → w'.cell? ⟨w.heap.size, i, none⟩ = some v := fun i v hv => by rw [cell_of_row w' _ _ _ 32 (0, 0) hb]; exact hv
    ⟨one 0 _ rfl, one 1 _ rfl, one 2 _ rfl, one 3 _ rfl, one 4 _ rfl, one 5 _ rfl, one 6 _ rfl, one 7 _ rfl⟩))
  clear h
  go_enter Try.func4, Try.ntmps4
  go_wp2_with fail
  refine (HF.out _ HT0.out).mono ?_
  rintro e w1 ⟨b1, rfl, k, t⟩
  have HK1 := Lib.hid k
  have HT1 := Lib.hid t
  have HW1 := Lib.hid (HT0.out.trans t)
  clear k t
  cases b1 with
  | false =>
    go_wp2_with fail
    go_ret
    exact ⟨rfl, HW1.out⟩
  | true =>
  have HSH := Lib.hid (fun ts hts => ((HK1.out rfl).2 ts hts).2)
  obtain ⟨y0, y1, y2, y3, y4, y5, y6, y7⟩ := HBX.out _ HT1.out
  go_wp2_with fail
  refine (HV.out _ HW1.out HSH.out).mono ?_
  rintro e w2 ⟨b2, rfl, k, t⟩
  have HK2 := Lib.hid k
  have HT2 := Lib.hid (HT1.out.trans t)
  have HW2 := Lib.hid (HW1.out.trans t)
  clear k t y0 y1 y2 y3 y4 y5 y6 y7
  cases b2 with
  | false =>
    go_wp2_with fail
    go_ret
    exact ⟨rfl, HW2.out⟩
  | true =>
  have HVA := Lib.hid (HK2.out rfl)
  obtain ⟨y0, y1, y2, y3, y4, y5, y6, y7⟩ := HBX.out _ HT2.out
  go_wp2_with (first
    | (go_at_call 14; refine (HT.out _ HW2.out HSH.out HVA.out).mono ?_; rintro e w3 ⟨b, a1, a2, c1, c2, rfl, q1, q2, q3, t⟩; have HQ1 := Lib.hid q1; have HQ2 := Lib.hid q2; have HQ3 := Lib.hid q3; have HT3 := Lib.hid (HT2.out.trans t); have HW3 := Lib.hid (HW2.out.trans t); clear q1 q2 q3 t y0 y1 y2 y3 y4 y5 y6 y7; obtain ⟨y0, y1, y2, y3, y4, y5, y6, y7⟩ := HBX.out _ HT3.out)
    | (go_at_call 15; refine (HA.out b a1 a2 c1 c2 _ HW3.out HVA.out HQ3.out HQ1.out HQ2.out).mono ?_; rintro e w4 ⟨rfl, t⟩; have HW4 := Lib.hid (HW3.out.trans t); clear t))
  go_ret
  exact ⟨rfl, HW4.out⟩

theorem tsize : Try.prog.types.size = 207 := by kernel_rfl

/-! ### The row's step -/
theorem lifted (os : Os) (started : os.Started) (H : Type) (enc : TypeId × Value → H) :
    ReturnsInHanded {} Try.checked os 4 .any (Rows.fnTargetsSpec.pre6 enc Try.prog Try.f4 Rows.fnTargetsRow.domain false) (Rows.fnTargetsSpec.post enc Try.prog Try.f4 false true false false) := by
  refine returnsInHanded_of_change (C := Try.checked) own started (by kernel_rfl) Try.func4
    (ChangeSpec.witness6 (enc := enc) (C := Try.checked) false ⟨#[], #[.slice none 0 0, .agg #[.int .i64 0, .int .i64 0, .int .i64 0, .int .i64 0, .int .i64 0, .int .i64 0, .int .i64 0, .int .u64 0]], []⟩ 8 (by kernel_rfl) (by kernel_rfl) (by kernel_rfl) (by kernel_rfl)) ?_
  intro W base args ds gs before hval0 hW hcnd _
  have hval : ∀ (j : Nat) t v, Try.f4.params[j]? = some t → args[j]? = some v → Value.okWide Try.prog W .any base t v := hval0
  have hW' := hW
  obtain ⟨p, q, hA0, hV, rfl, hfz, hnd⟩ := hW
  have hA : DataW.TrodAll enc Try.prog W 0 (fun _ => true) true Try.f4.params.toList args.toList ds p := hA0
  have hA1 := hA
  rw [Try.params4] at hA1 hval
  obtain ⟨v0, vs0, d0, ds0, p0, q0, hargs, rfl, rfl, h0, r0⟩ := trodAll_cons hA1
  obtain ⟨v1, vs1, d1, ds1, p1, q1, rfl, rfl, rfl, h1, r1⟩ := trodAll_cons r0
  obtain ⟨rfl, rfl, rfl⟩ := trodAll_nil r1
  obtain rfl : args = #[v0, v1] := by cases args; simp_all
  obtain ⟨rfl, rfl⟩ := trodVars_none hV
  obtain ⟨fuel0, hf0⟩ := h0
  obtain ⟨a0, l0, c0, rfl⟩ := okWide_slice Try.underlying30 (hval 0 30 v0 rfl rfl)
  obtain ⟨la, LL, cz, e, hu⟩ := open_levels hf0
  simp only [Value.cells, List.cons.injEq, and_true, Value.slice.injEq] at e
  obtain ⟨rfl, rfl, rfl⟩ := e
  obtain ⟨o, rfl⟩ := open_opt (hval 1 32 v1 rfl rfl) h1
  refine (walk LL a0 c0 o W hu).mono fun e W' ⟨he, hg⟩ => ?_
  subst he
  rw [List.append_nil] at hW'
  exact ⟨_, rfl, post_law rfl 4 Try.underlying4 rfl rfl Try.kids Try.full (by
    rw [Try.params4]
    intro t ht
    show t < Try.prog.types.size
    rw [tsize]
    have ht : t ∈ [30, 32] := ht
    simp only [List.mem_cons, List.not_mem_nil, or_false] at ht
    rcases ht with rfl | rfl <;> exact Nat.lt_of_sub_pos (by decide)) hW' hA hg⟩

theorem over : Rows.fnTargetsRow.holds Try.pinned (OpenSpec.ofChange Rows.fnTargetsSpec) :=
  OpenClaim.holds_of_wide 4 Try.f4 rfl rfl rfl rfl rfl rfl rfl ⟨rfl, rfl, rfl, rfl, rfl⟩ rfl rfl rfl rfl rfl (by kernel_rfl) Try.func4 (by kernel_rfl)
    (of_decide_eq_true (by kernel_rfl)) (by unfold Func.isWrapper; first | (rw [if_pos (by decide +kernel)]; kernel_rfl) | (rw [if_neg (by decide +kernel)]; exact ⟨rfl, rfl⟩))
    (fun os started H enc _ => lifted os started H enc)

/-- The statement. -/
theorem proved : Rows.FnTargetsSaid :=
  over
#print axioms proved
end Go.Proofs.Ytdofgamahjmohaa.fnTargets
