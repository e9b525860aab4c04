/- FnMarkRun returns true for every list of steps: behind every step the mark, the last index that began and what waits are as the reference tells. No condition. -/
import Derived.Test.YtaheafmdkbobcaaRows
import Derived.Test.YtaheafmdkbobcaaBoth
import Derived.WalkKit
import Derived.ProofKit
import Derived.OpenShut
import Derived.ShutString
import Derived.Deep.CutBlock
namespace Go.Proofs.Ytaheafmdkbobcaa.fnMarkRun
open Go.ChangeShapes Go.WideShapes Go.ChangeAt Go.RowKit
set_option maxRecDepth 100000

theorem own : ownKnob Try.prog.godebug = none := by kernel_rfl

set_option maxHeartbeats 2000000 in
theorem walk (L : List Stp) (sa : Option Addr) (cz : Nat) (w : World) (hst : StepsAt w sa L) (hu : ∀ i, i < L.length → (L.getD i default).idx ≤ MAX ∧ ∀ z ∈ (L.getD i default).many, z ≤ MAX) :
    Calls Try.prog 7 #[.slice sa L.length cz] w fun e w' => e = .returned (.bool true) ∧ Tch [] w w' := by
  have HC := Lib.hid (fits_any L sa cz w hst)
  have HST := Lib.hid hst
  have HU := Lib.hid hu
  clear hst hu
  go_enter Try.func7, Try.ntmps7
  go_wp2_with (go_at_call 12; refine HC.out.mono ?_; rintro e w1 ⟨b, rfl, h1, h2⟩; have H1 := Lib.hid h1; have H2 := Lib.hid h2; clear h1 h2; cases b)
  · go_ret; exact ⟨rfl, H2.out⟩
  have hst1 : StepsAt w1 sa L := (HST.out).tch H2.out
  have HC2 := Lib.hid (small_any L sa cz w1 hst1 (H1.out trivial))
  have HST1 := Lib.hid hst1
  clear hst1 HC HST H1
  go_wp2_with (go_at_call 13; refine HC2.out.mono ?_; rintro e w2 ⟨b, rfl, h1, h2⟩; have H1 := Lib.hid h1; have H3 := Lib.hid h2; clear h1 h2; cases b)
  · go_ret; exact ⟨rfl, H2.out.trans H3.out⟩
  have hst2 : StepsAt w2 sa L := (HST1.out).tch H3.out
  have hsm := H1.out trivial
  have HC3 := Lib.hid (srun_ans L sa cz w2 (by omega) (by omega) hst2 HU.out)
  have HST2 := Lib.hid hst2
  have HSM := Lib.hid hsm
  clear hst2 hsm HC2 HST1 H1
  go_wp2_with (go_at_call 14; refine HC3.out.mono ?_; rintro e w3 ⟨b, ov, rfl, h2, h1⟩; have H1 := Lib.hid h1; have H4 := Lib.hid h2; clear h1 h2; cases b)
  · go_ret; exact ⟨rfl, (H2.out.trans H3.out).trans H4.out⟩
  obtain ⟨hok, oa, oc, outs, rfl, ho⟩ := H1.out trivial
  have hst3 : StepsAt w3 sa L := (HST2.out).tch H4.out
  have HC4 := Lib.hid (runMark_ans L sa cz w3 hok (by have := HSM.out; omega) (by have := HSM.out; omega) hst3)
  have HLL := Lib.hid (show L.length ≤ 1000 from HSM.out.1)
  have HO := Lib.hid ho
  have HOK := Lib.hid hok
  clear hok hst3 HC3 HST2 H1 HSM ho
  go_wp2_with (go_at_call 15; refine HC4.out.mono ?_; rintro e w4 ⟨ga, gc, gouts, rfl, h1⟩; have HG := Lib.hid h1; clear h1)
  have HO2 := Lib.hid (HO.out.tch HG.out.out.t)
  have HT4 := Lib.hid (((H2.out.trans H3.out).trans H4.out).trans HG.out.out.t)
  have hl1 := HLL.out
  clear HO H2 H3 H4 HC4
  go_loopg [32] L.length (fun n s30 wr => ∃ j : Nat, j ≤ L.length ∧ n = L.length - j ∧ s30 = .int .i64 j ∧ Hid (Tch [] w4 wr))
  case atStart => exact ⟨0, Nat.zero_le _, rfl, rfl, Lib.hid (Tch.refl _ _)⟩
  case round =>
    obtain ⟨j, hj, rfl, rfl, HT⟩ := hrel
    obtain ⟨wo, rfl⟩ : ∃ wo : World, wo = wr := ⟨_, rfl⟩
    by_cases hlt : j < L.length
    · have hlt2 : (j : Int) < L.length := by omega
      obtain ⟨g, rfl, y0, y1, y2, y3, a, c', y4, y5⟩ := (HO2.out.tch HT.out).at hlt
      obtain ⟨g', rfl, z0, z1, z2, z3, a', c'', z4, z5⟩ := (HG.out.tch HT.out).at hlt
      have hdl : (tells L j).done.length ≤ 1000 := by
        have h1 := (St_good HOK.out (j + 1) hlt).2.2
        have h2 : (tells L j).done.length = (St L (j + 1)).2.length := by simp [tells, tell]
        omega
      generalize tells L j = tr at *
      obtain ⟨ti, la, pe, wa, dn⟩ := tr
      simp only at hdl y0 y1 y2 y3 y4 z0 z1 z2 z3 z4
      have l1 := World.block_lt_of_cell? _ _ z0
      have l2 := World.block_lt_of_cell? _ _ y0
      have Y5 := Lib.hid y5
      have Z5 := Lib.hid z5
      have HB := Lib.hid (box2 wo (.cells #[.int .u64 ti, .int .u64 la, .int .i64 pe, .int .i64 wa, .slice a dn.length c'] 35) (.cells #[.int .u64 ti, .int .u64 la, .int .i64 pe, .int .i64 wa, .slice a' dn.length c''] 35))
      clear hlt y5 z5
      go_wp2_with fail
      go_loopg [65] dn.length (fun n s65 wr => ∃ i : Nat, i ≤ dn.length ∧ n = dn.length - i ∧ s65 = .int .i64 i ∧ Hid (Tch [] wo wr ∧ wr.heap[wo.heap.size]? = some (.cells #[.int .u64 ti, .int .u64 la, .int .i64 pe, .int .i64 wa, .slice a dn.length c'] 35 (0, 0)) ∧ wr.heap[wo.heap.size + 1]? = some (.cells #[.int .u64 ti, .int .u64 la, .int .i64 pe, .int .i64 wa, .slice a' dn.length c''] 35 (0, 0))))
      case atStart => exact ⟨0, Nat.zero_le _, rfl, rfl, Lib.hid ⟨((Tch.refl _ _).alloc _).alloc _, HB.out.1, HB.out.2⟩⟩
      case round =>
        obtain ⟨i, hi, rfl, rfl, HI⟩ := hrel
        obtain ⟨hti, hb1, hb2⟩ := HI.out
        have d4 : wr.cell? ⟨wo.heap.size, 4, none⟩ = some (.slice a dn.length c') := by rw [cell_of_row wr _ _ _ 35 (0, 0) hb1]; rfl
        have g4 : wr.cell? ⟨wo.heap.size + 1, 4, none⟩ = some (.slice a' dn.length c'') := by rw [cell_of_row wr _ _ _ 35 (0, 0) hb2]; rfl
        clear y0 y1 y2 y3 y4 z0 z1 z2 z3 z4 hb1 hb2
        by_cases hlt : i < dn.length
        · have hlt3 : (i : Int) < dn.length := by omega
          obtain ⟨f, hf⟩ : ∃ f, dn[i]? = some f := ⟨_, List.getElem?_eq_getElem hlt⟩
          obtain ⟨gd, rfl, e1⟩ := Y5.out i f hf
          obtain ⟨gd', rfl, e2⟩ := Z5.out i f hf
          have e3 : wr.cell? ⟨gd, i, none⟩ = some (.bool f) := by rw [hti.cell (World.block_lt_of_cell? _ _ e1) (by simp)]; exact e1
          have e4 : wr.cell? ⟨gd', i, none⟩ = some (.bool f) := by rw [hti.cell (World.block_lt_of_cell? _ _ e2) (by simp)]; exact e2
          clear e1 e2 hf hlt hti
          go_wp2_with fail
          go_quiet (fail)
          go_wp2_with fail
          go_roundg (dn.length - (i + 1))
          case rel => exact ⟨i + 1, by omega, rfl, by go_num, Lib.hid ⟨HI.out.1.drewN _, HI.out.2.1, HI.out.2.2⟩⟩
          case measure => omega
        · obtain rfl : i = dn.length := by omega
          clear hlt hi hti d4 g4
          go_wp2_with fail
          go_roundg (L.length - (j + 1))
          case rel => exact ⟨j + 1, by omega, rfl, by go_num, Lib.hid (HT.out.trans HI.out.1)⟩
          case measure => omega
    · obtain rfl : j = L.length := by omega
      clear hlt hj
      go_wp2_with fail
      go_ret
      exact ⟨rfl, HT4.out.trans HT.out⟩

/-! ### The row's step -/
theorem lifted (os : Os) (started : os.Started) (H : Type) (enc : TypeId × Value → H) :
    ReturnsInHanded {} Try.checked os 7 .any (Rows.fnMarkRunSpec.pre6 enc Try.prog Try.f7 Rows.fnMarkRunRow.domain false) (Rows.fnMarkRunSpec.post enc Try.prog Try.f7 false true false false) := by
  refine returnsInHanded_of_change (C := Try.checked) own started (by kernel_rfl) Try.func7
    (ChangeSpec.witness6 (enc := enc) (C := Try.checked) false ⟨#[], #[.slice none 0 0], []⟩ 8 (by kernel_rfl) (by kernel_rfl) (by kernel_rfl) (by kernel_rfl)) ?_
  intro W base args ds gs before hval0 hW hcnd _
  have hval : ∀ (j : Nat) t v, Try.f7.params[j]? = some t → args[j]? = some v → Value.okWide Try.prog W .any base t v := hval0
  have hW' := hW
  obtain ⟨p, q, hA0, hV, rfl, hfz, hnd⟩ := hW
  have hA : DataW.TrodAll enc Try.prog W 0 (fun _ => true) true Try.f7.params.toList args.toList ds p := hA0
  have hA1 := hA
  rw [Try.params7] at hA1 hval
  obtain ⟨v0, vs0, d0, ds0, p0, q0, hargs, rfl, rfl, h0, r0⟩ := trodAll_cons hA1
  obtain ⟨rfl, rfl, rfl⟩ := trodAll_nil r0
  obtain rfl : args = #[v0] := by cases args; simp_all
  obtain ⟨rfl, rfl⟩ := trodVars_none hV
  obtain ⟨fuel, hf⟩ := h0
  obtain ⟨a0, l0, c0, rfl⟩ := okWide_slice Try.underlying22 (hval 0 22 v0 rfl rfl)
  obtain ⟨sa, L, cz, e, hst, hu⟩ := open_steps hf
  simp only [Value.cells, List.cons.injEq, and_true, Value.slice.injEq] at e
  obtain ⟨rfl, rfl, rfl⟩ := e
  refine (walk L a0 c0 W hst hu).mono fun e W' ⟨he, hg⟩ => ?_
  subst he
  simp only [List.append_nil] at hW' hA
  exact ⟨_, rfl, post_law rfl 4 Try.underlying4 rfl rfl Try.kids Try.full (by rw [Try.params7]; intro t ht; have ht := List.mem_singleton.1 ht; subst ht; exact (show 22 < Try.prog.types.size by rw [Try.tsize]; omega)) hW' hA hg⟩

theorem over : Rows.fnMarkRunRow.holds Try.pinned (OpenSpec.ofChange Rows.fnMarkRunSpec) :=
  OpenClaim.holds_of_wide 7 Try.f7 rfl rfl rfl rfl rfl rfl rfl ⟨rfl, rfl, rfl, rfl, rfl⟩ rfl rfl rfl rfl rfl (by kernel_rfl) Try.func7 (by kernel_rfl)
    (of_decide_eq_true (by kernel_rfl)) (by unfold Func.isWrapper; first | (rw [if_pos (by decide +kernel)]; kernel_rfl) | (rw [if_neg (by decide +kernel)]; exact ⟨rfl, rfl⟩))
    (fun os started H enc _ => lifted os started H enc)

/-- The statement. -/
theorem proved : Rows.FnMarkRunSaid :=
  over
#print axioms proved
end Go.Proofs.Ytaheafmdkbobcaa.fnMarkRun
