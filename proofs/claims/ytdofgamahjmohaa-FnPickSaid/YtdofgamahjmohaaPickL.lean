/- FnPick returns true for all levels of tables and all options: what wants a compaction is told as the reference has it, wherever the levels are as told and no two levels want one alike. No condition. -/
import Derived.Test.YtdofgamahjmohaaLwL
import Derived.Test.YtdofgamahjmohaaFkE
import Derived.Test.YtdofgamahjmohaaFkS
import Derived.Lib.SmallJoins
namespace Go.Proofs.Ytdofgamahjmohaa.fnPick
open Go.ChangeShapes Go.WideShapes Go.ChangeAt Go.RowKit Go.Deep Go.Joins
set_option maxRecDepth 100000

theorem own : ownKnob Try.prog.godebug = none := by kernel_rfl

theorem dof_nil : dOf [] = fun _ => 0 := by
  funext i
  simp [dOf]

/-- What is told of levels is what the reference says. -/
theorem told_same {LL : List (List Tb)} {o : Op} {b b' : Nat} {R : List PrD} (hv : Valid LL o) (hb : Based LL o b) (hb' : Based LL o b') (hc : (insAll (pickL (scoreD LL o (fun _ => 0)) b LL.length) []).2 = true) (hp : R.Perm (pickL (scoreD LL o (fun _ => 0)) b' LL.length)) (hs : R.Pairwise (fun x y => V y.adj ≤ V x.adj)) :
    R = (insAll (pickL (scoreD LL o (fun _ => 0)) b LL.length) []).1 ∧ ∀ x ∈ R, Num x.sc ∧ Val x.adj := by
  obtain rfl := GoBase2.one hb hb'
  have hn := scoreD_num hv (D := fun _ => 0) (fun i _ => by omega)
  have hbl := (hb.weak.ranged hv.op.n2).2
  refine ⟨sorted_ins (pickL_val hn hbl) hc hp (hs.imp (fun h => by omega)), fun x hx => ?_⟩
  have h1 := hp.mem_iff.1 hx
  refine ⟨?_, pickL_val hn hbl x h1⟩
  unfold pickL at h1
  have h2 := List.mem_of_mem_take (List.mem_filter.1 h1).1
  obtain ⟨j, hj, rfl⟩ := List.mem_map.1 h2
  exact hn j (List.mem_range.1 hj)

set_option maxHeartbeats 1000000 in
theorem walk (LL : List (List Tb)) (la : Option Addr) (c : Nat) (o : Op) (w : World) (h : LvAt w LL la c) :
    Calls Try.prog 7 #[.slice la LL.length c, opV o] w fun e w' => e = .returned (.bool true) ∧ Tch [] w w' := by
  have HF := Lib.hid (fun w' (t : Tch [] w w') => fits4_any LL la c w' (h.tch t))
  have HV := Lib.hid (fun w' (t : Tch [] w w') hs => valid_any LL la c o w' (h.tch t) hs)
  have HT := Lib.hid (fun w' (t : Tch [] w w') hs hv => targets_any LL la c o w' (h.tch t) hs hv)
  have HA := Lib.hid (fun b a1 a2 c1 c2 w' (t : Tch [] w w') hv hb h1 h2 => areTargets_any LL la c o b a1 a2 c1 c2 w' (h.tch t) hv hb h1 h2)
  have HNP := Lib.hid (fun b fa fn fc w' => newPlan_any la LL.length c o b fa fn fc w')
  have HPP := Lib.hid (fun b fv gp w' (t : Tch [] w w') (hv : Valid LL o) (hb : Based LL o b) (hp : PlanAt w' gp la LL.length c o b fv none 0 0 true) => planPick_any LL la c o b fv none 0 [] true gp w' hp (h.tch t) hv (fun j hj => absurd hj (Nat.not_lt_zero j)) (by simp) (by simp) (hb.weak.ranged hv.op.n2))
  have HIP := Lib.hid (fun w' (t : Tch [] w w') hs hv => implPick_any LL la c o w' (h.tch t) hs hv)
  have HSP := Lib.hid samePicked_any
  have HTS := Lib.hid (fun b b' R => told_same (LL := LL) (o := o) (b := b) (b' := b') (R := R))
  rw [dof_nil] at HPP
  obtain ⟨lv, lt, tt, zt, bl, bt, mt, di⟩ := o
  have HT0 := Lib.hid ((Tch.refl [] w).alloc (.cells (opA lv lt tt zt bl bt mt di) 32))
  have HBX := Lib.hid (fun (w' : World) (t : Tch [] (w.alloc (.cells (opA lv lt tt zt bl bt mt di) 32)) w') => (show _ ∧ _ ∧ _ ∧ _ ∧ _ ∧ _ ∧ _ ∧ _ from
    have hb := t.obj (alloc_at (w := w) (o := .cells (opA lv lt tt zt bl bt mt di) 32) rfl) (by simp)
    have one : ∀ i v, (opA lv lt tt zt bl bt mt di)[i]? = some v → w'.cell? ⟨w.heap.size, i, none⟩ = some v := fun i v hv => by rw [cell_of_row w' _ _ _ 32 (0, 0) hb]; exact hv
    ⟨one 0 _ rfl, one 1 _ rfl, one 2 _ rfl, one 3 _ rfl, one 4 _ rfl, one 5 _ rfl, one 6 _ rfl, one 7 _ rfl⟩))
  clear h
  go_enter Try.func7, Try.ntmps7
  go_wp2_with fail
  refine (HF.out _ HT0.out).mono ?_
  rintro e w1 ⟨b1, rfl, k, t⟩
  have HK1 := Lib.hid k
  have HT1 := Lib.hid t
  have HW1 := Lib.hid (HT0.out.trans t)
  clear k t
  cases b1 with
  | false =>
    go_wp2_with fail
    go_ret
    exact ⟨rfl, HW1.out⟩
  | true =>
  have HSH := Lib.hid (fun ts hts => ((HK1.out rfl).2 ts hts).2)
  obtain ⟨y0, y1, y2, y3, y4, y5, y6, y7⟩ := HBX.out _ HT1.out
  go_wp2_with fail
  refine (HV.out _ HW1.out HSH.out).mono ?_
  rintro e w2 ⟨b2, rfl, k, t⟩
  have HK2 := Lib.hid k
  have HT2 := Lib.hid (HT1.out.trans t)
  have HW2 := Lib.hid (HW1.out.trans t)
  clear k t y0 y1 y2 y3 y4 y5 y6 y7
  cases b2 with
  | false =>
    go_wp2_with fail
    go_ret
    exact ⟨rfl, HW2.out⟩
  | true =>
  have HVA := Lib.hid (HK2.out rfl)
  obtain ⟨y0, y1, y2, y3, y4, y5, y6, y7⟩ := HBX.out _ HT2.out
  go_wp2_with (first
    | (go_at_call 14; refine (HT.out _ HW2.out HSH.out HVA.out).mono ?_; rintro e w3 ⟨b, a1, a2, c1, c2, rfl, q1, q2, q3, t⟩; have HQ1 := Lib.hid q1; have HQ2 := Lib.hid q2; have HQ3 := Lib.hid q3; have HT3 := Lib.hid (HT2.out.trans t); have HW3 := Lib.hid (HW2.out.trans t); clear q1 q2 q3 t y0 y1 y2 y3 y4 y5 y6 y7; obtain ⟨y0, y1, y2, y3, y4, y5, y6, y7⟩ := HBX.out _ HT3.out)
    | (go_at_call 15; refine (HA.out b a1 a2 c1 c2 _ HW3.out HVA.out HQ3.out HQ1.out HQ2.out).mono ?_; rintro e w4 ⟨rfl, t⟩; have HW4 := Lib.hid (HW3.out.trans t); have HT4 := Lib.hid (HT3.out.trans t); clear t y0 y1 y2 y3 y4 y5 y6 y7; obtain ⟨y0, y1, y2, y3, y4, y5, y6, y7⟩ := HBX.out _ HT4.out)
    | (go_at_call 21; refine (HNP.out b a2 LL.length c2 _).mono ?_; rintro e w5 ⟨gp, rfl, q1, t, q2⟩; have HP5 := Lib.hid q1; have HW5 := Lib.hid (HW4.out.trans t); have HT5 := Lib.hid (HT4.out.trans t); clear q1 q2 t y0 y1 y2 y3 y4 y5 y6 y7; obtain ⟨y0, y1, y2, y3, y4, y5, y6, y7⟩ := HBX.out _ HT5.out)
    | (go_at_call 22; refine (HPP.out b _ gp _ HW5.out HVA.out HQ3.out HP5.out).mono ?_; rintro e w6 ⟨a6, c6, rfl, q1⟩; have HO6 := Lib.hid q1; have HW6 := Lib.hid (HW5.out.trans q1.t); have HT6 := Lib.hid (HT5.out.trans q1.t); clear q1 y0 y1 y2 y3 y4 y5 y6 y7; obtain ⟨y0, y1, y2, y3, y4, y5, y6, y7⟩ := HBX.out _ HT6.out))
  · have HOK : Hid ((insAll (pickL (scoreD LL ⟨lv, lt, tt, zt, bl, bt, mt, di⟩ (fun _ => 0)) b LL.length) []).2 = true) := Lib.hid (by assumption)
    refine (HIP.out _ HW6.out HSH.out HVA.out).mono ?_
    rintro e w7 ⟨b', a7, c7, R, rfl, q1, q2, q3, q4⟩
    have HQ7 := Lib.hid q1
    have HR := Lib.hid (HTS.out b b' R HVA.out HQ3.out q2 HOK.out q3 q4)
    have HO7 := Lib.hid (HO6.out.tch q1.t)
    have HW7 := Lib.hid (HW6.out.trans q1.t)
    have HF7 := Lib.hid (pick_few q3)
    clear q1 q2 q3 q4 y0 y1 y2 y3 y4 y5 y6 y7
    rw [← HR.out.1] at HO7 ⊢
    have HSQ := Lib.hid (HSP.out R HR.out.2 R.length a7 a6 c7 c6 (by have := HF7.out; have := HVA.out.op.n7; omega) _ _ w7 HQ7.out HO7.out)
    go_wp2_with (go_at_call 23; refine HSQ.out.mono ?_; rintro e w8 ⟨rfl, t⟩; have HW8 := Lib.hid (HW7.out.trans t); clear t)
    go_ret
    exact ⟨rfl, HW8.out⟩
  · go_ret
    exact ⟨rfl, HW6.out⟩

theorem tsize : Try.prog.types.size = 207 := by kernel_rfl

/-! ### The row's step -/
theorem lifted (os : Os) (started : os.Started) (H : Type) (enc : TypeId × Value → H) :
    ReturnsInHanded {} Try.checked os 7 .any (Rows.fnPickSpec.pre6 enc Try.prog Try.f7 Rows.fnPickRow.domain false) (Rows.fnPickSpec.post enc Try.prog Try.f7 false true false false) := by
  refine returnsInHanded_of_change (C := Try.checked) own started (by kernel_rfl) Try.func7
    (ChangeSpec.witness6 (enc := enc) (C := Try.checked) false ⟨#[], #[.slice none 0 0, .agg #[.int .i64 0, .int .i64 0, .int .i64 0, .int .i64 0, .int .i64 0, .int .i64 0, .int .i64 0, .int .u64 0]], []⟩ 8 (by kernel_rfl) (by kernel_rfl) (by kernel_rfl) (by kernel_rfl)) ?_
  intro W base args ds gs before hval0 hW hcnd _
  have hval : ∀ (j : Nat) t v, Try.f7.params[j]? = some t → args[j]? = some v → Value.okWide Try.prog W .any base t v := hval0
  have hW' := hW
  obtain ⟨p, q, hA0, hV, rfl, hfz, hnd⟩ := hW
  have hA : DataW.TrodAll enc Try.prog W 0 (fun _ => true) true Try.f7.params.toList args.toList ds p := hA0
  have hA1 := hA
  rw [Try.params7] at hA1 hval
  obtain ⟨v0, vs0, d0, ds0, p0, q0, hargs, rfl, rfl, h0, r0⟩ := trodAll_cons hA1
  obtain ⟨v1, vs1, d1, ds1, p1, q1, rfl, rfl, rfl, h1, r1⟩ := trodAll_cons r0
  obtain ⟨rfl, rfl, rfl⟩ := trodAll_nil r1
  obtain rfl : args = #[v0, v1] := by cases args; simp_all
  obtain ⟨rfl, rfl⟩ := trodVars_none hV
  obtain ⟨fuel0, hf0⟩ := h0
  obtain ⟨a0, l0, c0, rfl⟩ := okWide_slice Try.underlying30 (hval 0 30 v0 rfl rfl)
  obtain ⟨la, LL, cz, e, hu⟩ := open_levels hf0
  simp only [Value.cells, List.cons.injEq, and_true, Value.slice.injEq] at e
  obtain ⟨rfl, rfl, rfl⟩ := e
  obtain ⟨o, rfl⟩ := open_opt (hval 1 32 v1 rfl rfl) h1
  refine (walk LL a0 c0 o W hu).mono fun e W' ⟨he, hg⟩ => ?_
  subst he
  rw [List.append_nil] at hW'
  exact ⟨_, rfl, post_law rfl 4 Try.underlying4 rfl rfl Try.kids Try.full (by
    rw [Try.params7]
    intro t ht
    show t < Try.prog.types.size
    rw [tsize]
    have ht : t ∈ [30, 32] := ht
    simp only [List.mem_cons, List.not_mem_nil, or_false] at ht
    rcases ht with rfl | rfl <;> exact Nat.lt_of_sub_pos (by decide)) hW' hA hg⟩

theorem over : Rows.fnPickRow.holds Try.pinned (OpenSpec.ofChange Rows.fnPickSpec) :=
  OpenClaim.holds_of_wide 7 Try.f7 rfl rfl rfl rfl rfl rfl rfl ⟨rfl, rfl, rfl, rfl, rfl⟩ rfl rfl rfl rfl rfl (by kernel_rfl) Try.func7 (by kernel_rfl)
    (of_decide_eq_true (by kernel_rfl)) (by unfold Func.isWrapper; first | (rw [if_pos (by decide +kernel)]; kernel_rfl) | (rw [if_neg (by decide +kernel)]; exact ⟨rfl, rfl⟩))
    (fun os started H enc _ => lifted os started H enc)

/-- The statement. -/
theorem proved : Rows.FnPickSaid :=
  over
#print axioms proved
end Go.Proofs.Ytdofgamahjmohaa.fnPick
