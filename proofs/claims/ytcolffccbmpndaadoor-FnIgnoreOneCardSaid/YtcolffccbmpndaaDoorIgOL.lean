/- FnIgnoreOne returns true for all numbers: a number names one place, and a range all from one to the other. The library's tables read as their initialisers lay them. -/
import Derived.Test.YtcolffccbmpndaaDoorRows
import Derived.Test.YtcolffccbmpndaaDoorCards
import Derived.Test.YtcolffccbmpndaaDoorTie
import Derived.Test.YtcolffccbmpndaaDoorIgO
import Derived.Test.YtcolffccbmpndaaDoorLaidW
import Derived.WalkKit
import Derived.ProofKit
import Derived.OpenShut
import Derived.ShutString
import Derived.ChangeMaps5
namespace Go.Proofs.YtcolffccbmpndaaDoor.fnIgnoreOne
open Go.ChangeShapes Go.WideShapes Go.ChangeAt Go.RowKit
open Go.ChangeMaps (open_string shut_string)
set_option maxRecDepth 100000

theorem own : ownKnob Tryd.prog.godebug = none := by kernel_rfl
theorem tsize : Tryd.prog.types.size = 120 := by kernel_rfl

theorem wf_u16 {a : Int} (h : (Lit.int .u16 a).wf = true) : 0 ≤ a := by
  simp only [Lit.wf, Bool.and_eq_true, decide_eq_true_eq] at h
  exact h.1

/-! ### The row's step -/
theorem lifted (os : Os) (started : os.Started) (H : Type) (enc : TypeId × Value → H) :
    ReturnsInHanded {} Tryd.checked os 4 .any (fun w args => (Rows.fnIgnoreOneSpec.pre enc Tryd.prog Tryd.f4 Rows.fnIgnoreOneRow.domain false w args ∧ laidMet Tryd.prog Rows.fnIgnoreOneRow.laid w) ∧ sizedMet enc Tryd.prog Tryd.f4 (OpenSpec.ofChange Rows.fnIgnoreOneSpec) false w args) (Rows.fnIgnoreOneSpec.post enc Tryd.prog Tryd.f4 false true false false) := by
  refine returnsInHanded_of_change_and (C := Tryd.checked) (X := fun w _ => laidMet Tryd.prog Rows.fnIgnoreOneRow.laid w) (fun _ _ _ hh h => h.of_heap hh) own started (by kernel_rfl) Tryd.func4
    (ChangeSpec.witness_shaped (enc := enc) (C := Tryd.checked) (os := os) (X := fun w _ => laidMet Tryd.prog Rows.fnIgnoreOneRow.laid w) false (laidWorld os) #[.int .u16 0, .int .u16 0] 8 rfl (laidWorld_shaped os _) (by kernel_rfl) (by kernel_rfl) (by kernel_rfl) (laidWorld_met os _)) ?_
  intro W base args ds gs before hval0 hW hcnd _ hL _
  have hval : ∀ (j : Nat) t v, Tryd.f4.params[j]? = some t → args[j]? = some v → Value.okWide Tryd.prog W .any base t v := hval0
  have hW' := hW
  obtain ⟨p, q, hA0, hV, rfl, hfz, hnd⟩ := hW
  have hA : DataW.TrodAll enc Tryd.prog W 0 (fun _ => true) true Tryd.f4.params.toList args.toList ds p := hA0
  have hA1 := hA
  rw [Tryd.params4] at hA1 hval
  obtain ⟨v0, vs0, d0, ds0, p0, q0, hargs, rfl, rfl, h0, r0⟩ := trodAll_cons hA1
  obtain ⟨v1, vs1, d1, ds1, p1, q1, rfl, rfl, rfl, h1, r1⟩ := trodAll_cons r0
  obtain ⟨rfl, rfl, rfl⟩ := trodAll_nil r1
  obtain rfl : args = #[v0, v1] := by cases args; simp_all
  obtain ⟨rfl, rfl⟩ := trodVars_none hV
  obtain ⟨a0, rfl, rfl, rfl, w0⟩ := open_int Tryd.underlying27 (hval 0 27 v0 rfl rfl) h0
  obtain ⟨a1, rfl, rfl, rfl, w1⟩ := open_int Tryd.underlying27 (hval 1 27 v1 rfl rfl) h1
  refine (ignO_any a0 a1 (wf_u16 w0) (wf_u16 w1) W (tabs_of_laid hL)).mono fun e W' ⟨he, hg⟩ => ?_
  subst he
  simp only [List.append_nil] at hW' hA
  exact ⟨_, rfl, post_law rfl 4 Tryd.underlying4 rfl rfl Tryd.kids Tryd.full (by rw [Tryd.params4]; intro t ht; have ht : t = 27 := by { simpa using ht }; subst ht; exact (show 27 < Tryd.prog.types.size by rw [tsize]; decide)) hW' hA hg⟩

theorem over : Rows.FnIgnoreOneSaid :=
  OpenClaim.holds_of_wide 4 Tryd.f4 rfl rfl rfl rfl rfl rfl rfl ⟨rfl, rfl, rfl, rfl, rfl⟩ rfl rfl rfl rfl rfl (by kernel_rfl) Tryd.func4 (by kernel_rfl)
    (of_decide_eq_true (by kernel_rfl)) (by unfold Func.isWrapper; first | (rw [if_pos (by decide +kernel)]; kernel_rfl) | (rw [if_neg (by decide +kernel)]; exact ⟨rfl, rfl⟩))
    (fun os started H enc _ => lifted os started H enc)

/-- The statement: the tied card. -/
theorem proved : Rows.FnIgnoreOneCardSaid :=
  Claim7.holds_tied_plain_at .later [] [.data, .data, .data, .data, .sentinel, .sentinel, .listed, .data, .pinned] true (true, "622bc5475d9116eb59c89f38522cd852afe45d2545da2a0301c3bfefcac9f854") true
    over (fun _ h => by cases h) (by kernel_rfl) (fun _ h => by cases h) fnIgnoreOne_row_tie rfl ⟨rfl, rfl⟩ (by kernel_rfl) rfl
    (fun f fn hf hfn => by
      obtain rfl : f = 4 := Option.some.inj ((show Tryd.prog.funcNamed "loop.example/pub-g01509/laws.FnIgnoreOne" = some 4 by kernel_rfl).symm.trans hf) |>.symm
      obtain rfl : fn = Tryd.f4 := (Option.some.inj (Tryd.func4.symm.trans hfn)).symm
      exact ⟨by kernel_rfl, fun j t ht => by
        rw [Tryd.params4] at ht
        rcases j with _ | _ | j
        · obtain rfl : 27 = t := by simpa using ht
          exact (show Tryd.prog.wantsStandIn 27 = false by kernel_rfl)
        · obtain rfl : 27 = t := by simpa using ht
          exact (show Tryd.prog.wantsStandIn 27 = false by kernel_rfl)
        · simp at ht⟩)
    (by kernel_rfl)
#print axioms proved
end Go.Proofs.YtcolffccbmpndaaDoor.fnIgnoreOne
