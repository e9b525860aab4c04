/- spec.AreTargets; options that came in. -/
import Derived.Test.YtdofgamahjmohaaLwK
namespace Go.Proofs.Ytdofgamahjmohaa
open Go.ChangeShapes Go.WideShapes Go.Deep Go.RowKit
set_option maxRecDepth 100000

set_option maxHeartbeats 1000000 in
theorem areTargets_any (LL : List (List Tb)) (la : Option Addr) (c : Nat) (o : Op) (b : Nat) (a1 a2 : Option Addr) (c1 c2 : Nat) (w : World) (h : LvAt w LL la c) (hv : Valid LL o) (hb : Based LL o b)
    (h1 : IAt w ((List.range LL.length).map (tgs LL o)) a1) (h2 : IAt w ((List.range LL.length).map (fsz o.tt o.bt o.mt b)) a2) :
    Calls Try.prog 15 #[.slice la LL.length c, opV o, .int .i64 b, .slice a1 LL.length c1, .slice a2 LL.length c2] w fun e w' => e = .returned (.bool true) ∧ Tch [] w w' := by
  have hn := hv.op.n7
  have hbr := (hb.weak.ranged hv.op.n2).1
  have HB := Lib.hid (fun w' (t : Tch [] w w') => isBase_any LL la c o b w' (h.tch t) hv hb)
  have HSZ := Lib.hid (fun w' (t : Tch [] w w') => spec_Sizes_any LL la c o w' (h.tch t) hv)
  have HSM := Lib.hid (fun w' (t : Tch [] w w') g (k : IAt w' ((List.range LL.length).map (tgs LL o)) (some ⟨g, 0, none⟩)) => same_any ((List.range LL.length).map (tgs LL o)) a1 (some ⟨g, 0, none⟩) c1 LL.length w' (h1.tch t) k (by simp; omega))
  have hfi : ∀ w', Tch [] w w' → Calls Try.prog 35 #[.slice a2 LL.length c2, opV o, .int .i64 b] w' fun e w2 => e = .returned (.bool true) ∧ Tch [] w' w2 := by
    intro w' t
    obtain ⟨m, hm⟩ : ∃ m, LL.length = m + 2 := ⟨LL.length - 2, by have := hv.op.n2; omega⟩
    have k := h2.tch t
    have ho := hv.op
    rw [hm] at k ho ⊢
    exact files_any m b o a2 c2 w' ho hbr k
  have HFI := Lib.hid hfi
  obtain ⟨lv, lt, tt, zt, bl, bt, mt, di⟩ := o
  have HT0 := Lib.hid ((Tch.refl [] w).alloc (.cells (opA lv lt tt zt bl bt mt di) 32))
  have ll : ((List.range LL.length).map (tgs LL ⟨lv, lt, tt, zt, bl, bt, mt, di⟩)).length = LL.length := by simp
  rw [ll] at HSM
  have HBX := Lib.hid (fun (w' : World) (t : Tch [] (w.alloc (.cells (opA lv lt tt zt bl bt mt di) 32)) w') => (show _ ∧ _ ∧ _ ∧ _ ∧ _ ∧ _ ∧ _ ∧ _ from
    have hb := t.obj (alloc_at (w := w) (o := .cells (opA lv lt tt zt bl bt mt di) 32) rfl) (by simp)
    have one : ∀ i v, (opA lv lt tt zt bl bt mt di)[i]? = some v → w'.cell? ⟨w.heap.size, i, none⟩ = some v := fun i v hv => by rw [cell_of_row w' _ _ _ 32 (0, 0) hb]; exact hv
    ⟨one 0 _ rfl, one 1 _ rfl, one 2 _ rfl, one 3 _ rfl, one 4 _ rfl, one 5 _ rfl, one 6 _ rfl, one 7 _ rfl⟩))
  clear h hv hb h1 h2 hfi ll hn hbr
  go_enter Try.func15, Try.ntmps15
  go_wp2_with (first
    | (go_at_call 20; refine (HB.out _ HT0.out).mono ?_; rintro e w1 ⟨rfl, t⟩; have HT1 := Lib.hid t; have HW1 := Lib.hid (HT0.out.trans t); clear t; obtain ⟨y0, y1, y2, y3, y4, y5, y6, y7⟩ := HBX.out _ HT1.out)
    | (go_at_call 34; refine (HSZ.out _ HW1.out).mono ?_; rintro e w2 ⟨g, rfl, k, t⟩; have HK := Lib.hid k; have HT2 := Lib.hid (HT1.out.trans t); have HW2 := Lib.hid (HW1.out.trans t); clear k t y0 y1 y2 y3 y4 y5 y6 y7)
    | (go_at_call 33; refine (HSM.out _ HW2.out g HK.out).mono ?_; rintro e w3 ⟨rfl, t⟩; have HT3 := Lib.hid (HT2.out.trans t); have HW3 := Lib.hid (HW2.out.trans t); clear t; obtain ⟨y0, y1, y2, y3, y4, y5, y6, y7⟩ := HBX.out _ HT3.out)
    | (go_at_call 35; refine (HFI.out _ HW3.out).mono ?_; rintro e w4 ⟨rfl, t⟩; have HW4 := Lib.hid (HW3.out.trans t); clear t))
  go_ret
  exact ⟨rfl, HW4.out⟩

theorem Try.cellsInt : Try.prog.cellsOf 3 = 1 := by kernel_rfl

section
variable {H : Type} {enc : TypeId × Value → H} {w : World} {fuel : Nat} {cs : List Value} {x : DataW H × List MemPlace}
/-- Options that came in. -/
theorem open_opt {r : Reach} {b0 : Nat} {v : Value} {d : DataW H} {p : List MemPlace} (hv : Value.okWide Try.prog w r b0 32 v) (h : DataW.Trod enc Try.prog w 0 (fun _ => true) true 32 v d p) : ∃ o : Op, v = opV o := by
  obtain ⟨cs, rfl, hsz⟩ := okWide_struct Try.underlying32 hv
  obtain ⟨fuel, hf⟩ := h
  obtain ⟨xs, n', -, -, hcl0, hyl, hf⟩ := DataW.trod_struct Try.underlying32 hf
  have hcl : (Value.agg cs).cells.toList.length = 8 := hcl0
  match hcs : (Value.agg cs).cells.toList, hcl, xs, hyl with
  | [c0, c1, c2, c3, c4, c5, c6, c7], _, [y0, y1, y2, y3, y4, y5, y6, y7], _ =>
    rw [hcs] at hf
    have h0 : DataW.trod enc Try.prog w 0 (fun _ => true) true n' 3 [c0] = some y0 := by have := hf 0 ⟨_, 3, 0, _, _, _, _⟩ rfl; simp only [Try.cellsInt] at this; exact this
    obtain ⟨v0, e0, -, -⟩ := DataW.trod_int Try.underlying3 h0
    simp only [List.cons.injEq, and_true] at e0
    subst e0
    have h1 : DataW.trod enc Try.prog w 0 (fun _ => true) true n' 3 [c1] = some y1 := by have := hf 1 ⟨_, 3, 1, _, _, _, _⟩ rfl; simp only [Try.cellsInt] at this; exact this
    obtain ⟨v1, e1, -, -⟩ := DataW.trod_int Try.underlying3 h1
    simp only [List.cons.injEq, and_true] at e1
    subst e1
    have h2 : DataW.trod enc Try.prog w 0 (fun _ => true) true n' 3 [c2] = some y2 := by have := hf 2 ⟨_, 3, 2, _, _, _, _⟩ rfl; simp only [Try.cellsInt] at this; exact this
    obtain ⟨v2, e2, -, -⟩ := DataW.trod_int Try.underlying3 h2
    simp only [List.cons.injEq, and_true] at e2
    subst e2
    have h3 : DataW.trod enc Try.prog w 0 (fun _ => true) true n' 3 [c3] = some y3 := by have := hf 3 ⟨_, 3, 3, _, _, _, _⟩ rfl; simp only [Try.cellsInt] at this; exact this
    obtain ⟨v3, e3, -, -⟩ := DataW.trod_int Try.underlying3 h3
    simp only [List.cons.injEq, and_true] at e3
    subst e3
    have h4 : DataW.trod enc Try.prog w 0 (fun _ => true) true n' 2 [c4] = some y4 := by have := hf 4 ⟨_, 2, 4, _, _, _, _⟩ rfl; simp only [Try.cellsI64] at this; exact this
    obtain ⟨v4, e4, -, -⟩ := DataW.trod_int Try.underlying2 h4
    simp only [List.cons.injEq, and_true] at e4
    subst e4
    have h5 : DataW.trod enc Try.prog w 0 (fun _ => true) true n' 2 [c5] = some y5 := by have := hf 5 ⟨_, 2, 5, _, _, _, _⟩ rfl; simp only [Try.cellsI64] at this; exact this
    obtain ⟨v5, e5, -, -⟩ := DataW.trod_int Try.underlying2 h5
    simp only [List.cons.injEq, and_true] at e5
    subst e5
    have h6 : DataW.trod enc Try.prog w 0 (fun _ => true) true n' 2 [c6] = some y6 := by have := hf 6 ⟨_, 2, 6, _, _, _, _⟩ rfl; simp only [Try.cellsI64] at this; exact this
    obtain ⟨v6, e6, -, -⟩ := DataW.trod_int Try.underlying2 h6
    simp only [List.cons.injEq, and_true] at e6
    subst e6
    have h7 : DataW.trod enc Try.prog w 0 (fun _ => true) true n' 23 [c7] = some y7 := by have := hf 7 ⟨_, 23, 7, _, _, _, _⟩ rfl; simp only [Try.cellsU64] at this; exact this
    obtain ⟨v7, e7, -, -⟩ := DataW.trod_int Try.underlying23 h7
    simp only [List.cons.injEq, and_true] at e7
    subst e7
    refine ⟨⟨v0, v1, v2, v3, v4, v5, v6, v7⟩, ?_⟩
    show Value.agg cs = Value.agg _
    congr 1
    exact Array.ext' hcs
end

end Go.Proofs.Ytdofgamahjmohaa
