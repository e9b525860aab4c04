/- FnMarkPending returns true for every list of steps: as many indices are pending as have begun and are not behind the mark yet. No condition. -/
import Derived.Test.YtaheafmdkbobcaaRows
import Derived.Test.YtaheafmdkbobcaaBoth
import Derived.WalkKit
import Derived.ProofKit
import Derived.OpenShut
import Derived.ShutString
import Derived.Deep.CutBlock
namespace Go.Proofs.Ytaheafmdkbobcaa.fnMarkPending
open Go.ChangeShapes Go.WideShapes Go.ChangeAt Go.RowKit
set_option maxRecDepth 100000

theorem own : ownKnob Try.prog.godebug = none := by kernel_rfl

set_option maxHeartbeats 2000000 in
theorem walk (L : List Stp) (sa : Option Addr) (cz : Nat) (w : World) (hst : StepsAt w sa L) (hu : ∀ i, i < L.length → (L.getD i default).idx ≤ MAX ∧ ∀ z ∈ (L.getD i default).many, z ≤ MAX) :
    Calls Try.prog 5 #[.slice sa L.length cz] w fun e w' => e = .returned (.bool true) ∧ Tch [] w w' := by
  have HC := Lib.hid (fits_any L sa cz w hst)
  have HST := Lib.hid hst
  have HU := Lib.hid hu
  clear hst hu
  go_enter Try.func5, Try.ntmps5
  go_wp2_with (go_at_call 12; refine HC.out.mono ?_; rintro e w1 ⟨b, rfl, h1, h2⟩; have H1 := Lib.hid h1; have H2 := Lib.hid h2; clear h1 h2; cases b)
  · go_ret; exact ⟨rfl, H2.out⟩
  have hst1 : StepsAt w1 sa L := (HST.out).tch H2.out
  have HC2 := Lib.hid (small_any L sa cz w1 hst1 (H1.out trivial))
  have HST1 := Lib.hid hst1
  clear hst1 HC HST H1
  go_wp2_with (go_at_call 13; refine HC2.out.mono ?_; rintro e w2 ⟨b, rfl, h1, h2⟩; have H1 := Lib.hid h1; have H3 := Lib.hid h2; clear h1 h2; cases b)
  · go_ret; exact ⟨rfl, H2.out.trans H3.out⟩
  have hst2 : StepsAt w2 sa L := (HST1.out).tch H3.out
  have hsm := H1.out trivial
  have HC3 := Lib.hid (srun_ans L sa cz w2 (by omega) (by omega) hst2 HU.out)
  have HST2 := Lib.hid hst2
  have HSM := Lib.hid hsm
  clear hst2 hsm HC2 HST1 H1
  go_wp2_with (go_at_call 14; refine HC3.out.mono ?_; rintro e w3 ⟨b, ov, rfl, h2, h1⟩; have H1 := Lib.hid h1; have H4 := Lib.hid h2; clear h1 h2; cases b)
  · go_ret; exact ⟨rfl, (H2.out.trans H3.out).trans H4.out⟩
  obtain ⟨hok, oa, oc, outs, rfl, ho⟩ := H1.out trivial
  have hst3 : StepsAt w3 sa L := (HST2.out).tch H4.out
  have HC4 := Lib.hid (runMark_ans L sa cz w3 hok (by have := HSM.out; omega) (by have := HSM.out; omega) hst3)
  have HLL := Lib.hid (show L.length ≤ 1000 from HSM.out.1)
  have HO := Lib.hid ho
  have HOK := Lib.hid hok
  clear hok hst3 HC3 HST2 H1 HSM ho
  go_wp2_with (go_at_call 15; refine HC4.out.mono ?_; rintro e w4 ⟨ga, gc, gouts, rfl, h1⟩; have HG := Lib.hid h1; clear h1)
  have HO2 := Lib.hid (HO.out.tch HG.out.out.t)
  have HT4 := Lib.hid (((H2.out.trans H3.out).trans H4.out).trans HG.out.out.t)
  have hl1 := HLL.out
  clear HO H2 H3 H4 HC4
  go_loopg [30] L.length (fun n s30 wr => ∃ j : Nat, j ≤ L.length ∧ n = L.length - j ∧ s30 = .int .i64 j ∧ Hid (Tch [] w4 wr))
  case atStart => exact ⟨0, Nat.zero_le _, rfl, rfl, Lib.hid (Tch.refl _ _)⟩
  case round =>
    obtain ⟨j, hj, rfl, rfl, HT⟩ := hrel
    by_cases hlt : j < L.length
    · have hlt2 : (j : Int) < L.length := by omega
      obtain ⟨g, rfl, y0, y1, y2, y3, a, c', y4, -⟩ := (HO2.out.tch HT.out).at hlt
      obtain ⟨g', rfl, z0, z1, z2, z3, a', c'', z4, -⟩ := (HG.out.tch HT.out).at hlt
      generalize tells L j = tr at *
      have l1 := World.block_lt_of_cell? _ _ z0
      clear hlt
      go_wp2_with fail
      go_quiet (fail)
      go_wp2_with fail
      go_roundg (L.length - (j + 1))
      case rel => exact ⟨j + 1, by omega, rfl, by go_num, Lib.hid ((HT.out.alloc _).drewN _)⟩
      case measure => omega
    · obtain rfl : j = L.length := by omega
      clear hlt hj
      go_wp2_with fail
      go_ret
      exact ⟨rfl, HT4.out.trans HT.out⟩

/-! ### The row's step -/
theorem lifted (os : Os) (started : os.Started) (H : Type) (enc : TypeId × Value → H) :
    ReturnsInHanded {} Try.checked os 5 .any (Rows.fnMarkPendingSpec.pre6 enc Try.prog Try.f5 Rows.fnMarkPendingRow.domain false) (Rows.fnMarkPendingSpec.post enc Try.prog Try.f5 false true false false) := by
  refine returnsInHanded_of_change (C := Try.checked) own started (by kernel_rfl) Try.func5
    (ChangeSpec.witness6 (enc := enc) (C := Try.checked) false ⟨#[], #[.slice none 0 0], []⟩ 8 (by kernel_rfl) (by kernel_rfl) (by kernel_rfl) (by kernel_rfl)) ?_
  intro W base args ds gs before hval0 hW hcnd _
  have hval : ∀ (j : Nat) t v, Try.f5.params[j]? = some t → args[j]? = some v → Value.okWide Try.prog W .any base t v := hval0
  have hW' := hW
  obtain ⟨p, q, hA0, hV, rfl, hfz, hnd⟩ := hW
  have hA : DataW.TrodAll enc Try.prog W 0 (fun _ => true) true Try.f5.params.toList args.toList ds p := hA0
  have hA1 := hA
  rw [Try.params5] at hA1 hval
  obtain ⟨v0, vs0, d0, ds0, p0, q0, hargs, rfl, rfl, h0, r0⟩ := trodAll_cons hA1
  obtain ⟨rfl, rfl, rfl⟩ := trodAll_nil r0
  obtain rfl : args = #[v0] := by cases args; simp_all
  obtain ⟨rfl, rfl⟩ := trodVars_none hV
  obtain ⟨fuel, hf⟩ := h0
  obtain ⟨a0, l0, c0, rfl⟩ := okWide_slice Try.underlying22 (hval 0 22 v0 rfl rfl)
  obtain ⟨sa, L, cz, e, hst, hu⟩ := open_steps hf
  simp only [Value.cells, List.cons.injEq, and_true, Value.slice.injEq] at e
  obtain ⟨rfl, rfl, rfl⟩ := e
  refine (walk L a0 c0 W hst hu).mono fun e W' ⟨he, hg⟩ => ?_
  subst he
  simp only [List.append_nil] at hW' hA
  exact ⟨_, rfl, post_law rfl 4 Try.underlying4 rfl rfl Try.kids Try.full (by rw [Try.params5]; intro t ht; have ht := List.mem_singleton.1 ht; subst ht; exact (show 22 < Try.prog.types.size by rw [Try.tsize]; omega)) hW' hA hg⟩

theorem over : Rows.fnMarkPendingRow.holds Try.pinned (OpenSpec.ofChange Rows.fnMarkPendingSpec) :=
  OpenClaim.holds_of_wide 5 Try.f5 rfl rfl rfl rfl rfl rfl rfl ⟨rfl, rfl, rfl, rfl, rfl⟩ rfl rfl rfl rfl rfl (by kernel_rfl) Try.func5 (by kernel_rfl)
    (of_decide_eq_true (by kernel_rfl)) (by unfold Func.isWrapper; first | (rw [if_pos (by decide +kernel)]; kernel_rfl) | (rw [if_neg (by decide +kernel)]; exact ⟨rfl, rfl⟩))
    (fun os started H enc _ => lifted os started H enc)

/-- The statement. -/
theorem proved : Rows.FnMarkPendingSaid :=
  over
#print axioms proved
end Go.Proofs.Ytaheafmdkbobcaa.fnMarkPending
