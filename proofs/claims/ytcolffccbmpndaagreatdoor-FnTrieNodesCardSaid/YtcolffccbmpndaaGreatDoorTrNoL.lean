/- FnTrieNodes returns true for all steps: there are as many nodes as beginnings of the prefixes that stand, all holes being alike, and one for none. The library's tables read as their initialisers lay them. -/
import Derived.Test.YtcolffccbmpndaaGreatDoorRows
import Derived.Test.YtcolffccbmpndaaGreatDoorCards
import Derived.Test.YtcolffccbmpndaaGreatDoorTie
import Derived.Test.YtcolffccbmpndaaGreatDoorTrSb
import Derived.Test.YtcolffccbmpndaaGreatDoorTrO
import Derived.Test.YtcolffccbmpndaaGreatDoorLaidW
import Derived.WalkKit
import Derived.ProofKit
import Derived.OpenShut
import Derived.ShutString
import Derived.ChangeMaps5
namespace Go.Proofs.YtcolffccbmpndaaGreatDoor.fnTrieNodes
open Go.ChangeShapes Go.WideShapes Go.ChangeAt Go.RowKit
set_option maxRecDepth 100000

theorem own : ownKnob Tryz.prog.godebug = none := by kernel_rfl

/-! ### The row's step -/
theorem lifted (os : Os) (started : os.Started) (H : Type) (enc : TypeId × Value → H) :
    ReturnsInHanded {} Tryz.checked os 7 .any (fun w args => (Rows.fnTrieNodesSpec.pre enc Tryz.prog Tryz.f7 Rows.fnTrieNodesRow.domain false w args ∧ laidMet Tryz.prog Rows.fnTrieNodesRow.laid w) ∧ sizedMet enc Tryz.prog Tryz.f7 (OpenSpec.ofChange Rows.fnTrieNodesSpec) false w args) (Rows.fnTrieNodesSpec.post enc Tryz.prog Tryz.f7 false true false false) := by
  refine returnsInHanded_of_change_and (C := Tryz.checked) (X := fun w _ => laidMet Tryz.prog Rows.fnTrieNodesRow.laid w) (fun _ _ _ hh h => h.of_heap hh) own started (by kernel_rfl) Tryz.func7
    (ChangeSpec.witness_shaped (enc := enc) (C := Tryz.checked) (os := os) (X := fun w _ => laidMet Tryz.prog Rows.fnTrieNodesRow.laid w) false (laidWorld os) #[.slice none 0 0] 8 rfl (laidWorld_shaped os _) (by kernel_rfl) (by kernel_rfl) (by kernel_rfl) (laidWorld_met os _)) ?_
  intro W base args ds gs before hval0 hW hcnd _ hL _
  have hval : ∀ (j : Nat) t v, Tryz.f7.params[j]? = some t → args[j]? = some v → Value.okWide Tryz.prog W .any base t v := hval0
  have hW' := hW
  obtain ⟨p, q, hA0, hV, rfl, hfz, hnd⟩ := hW
  have hA : DataW.TrodAll enc Tryz.prog W 0 (fun _ => true) true Tryz.f7.params.toList args.toList ds p := hA0
  have hA1 := hA
  rw [Tryz.params7] at hA1 hval
  obtain ⟨v0, vs0, d0, ds0, p0, q0, hargs, rfl, rfl, h0, r0⟩ := trodAll_cons hA1
  obtain ⟨rfl, rfl, rfl⟩ := trodAll_nil r0
  obtain rfl : args = #[v0] := by cases args; simp_all
  obtain ⟨rfl, rfl⟩ := trodVars_none hV
  obtain ⟨fuel0, hf0⟩ := h0
  obtain ⟨a0, l0, c0, rfl⟩ := okWide_slice Tryz.underlying22 (hval 0 22 v0 rfl rfl)
  obtain ⟨ba0, x0, bc0, e0, hb0⟩ := open_steps hf0
  simp only [Value.cells, List.cons.injEq, and_true, Value.slice.injEq] at e0
  obtain ⟨rfl, rfl, rfl⟩ := e0
  refine (trieNodes_any W x0 a0 c0 hb0 (tabs_of_laid hL)).mono fun e W' ⟨he, hg⟩ => ?_
  subst he
  simp only [List.append_nil] at hW' hA
  exact ⟨_, rfl, post_law rfl 4 Tryz.underlying4 rfl rfl Tryz.kids Tryz.full (by rw [Tryz.params7]; intro t ht; have ht : t = 22 := by { simpa using ht }; subst ht; exact (show 22 < Tryz.prog.types.size by rw [Tryz.tsize]; decide)) hW' hA hg⟩

theorem over : Rows.FnTrieNodesSaid :=
  OpenClaim.holds_of_wide 7 Tryz.f7 rfl rfl rfl rfl rfl rfl rfl ⟨rfl, rfl, rfl, rfl, rfl⟩ rfl rfl rfl rfl rfl (by kernel_rfl) Tryz.func7 (by kernel_rfl)
    (of_decide_eq_true (by kernel_rfl)) (by unfold Func.isWrapper; first | (rw [if_pos (by decide +kernel)]; kernel_rfl) | (rw [if_neg (by decide +kernel)]; exact ⟨rfl, rfl⟩))
    (fun os started H enc _ => lifted os started H enc)

/-- The statement: the tied card. -/
theorem proved : Rows.FnTrieNodesCardSaid :=
  Claim7.holds_tied_plain_at .later [] [.data, .data, .data, .data, .sentinel, .sentinel, .listed, .data, .pinned] true (true, "b156e6cf42a3cb22958a766e9bea59c040b0d87fe69c1a545447962d0e1986e8") true
    over (fun _ h => by cases h) (by kernel_rfl) (fun _ h => by cases h) fnTrieNodes_row_tie rfl ⟨rfl, rfl⟩ (by kernel_rfl) rfl
    (fun f fn hf hfn => by
      obtain rfl : f = 7 := Option.some.inj ((show Tryz.prog.funcNamed "loop.example/pub-g01509/laws.FnTrieNodes" = some 7 by kernel_rfl).symm.trans hf) |>.symm
      obtain rfl : fn = Tryz.f7 := (Option.some.inj (Tryz.func7.symm.trans hfn)).symm
      exact ⟨by kernel_rfl, fun j t ht => by
        rw [Tryz.params7] at ht
        rcases j with _ | j
        · obtain rfl : 22 = t := by simpa using ht
          exact (show Tryz.prog.wantsStandIn 22 = false by kernel_rfl)
        · simp at ht⟩)
    (by kernel_rfl)
#print axioms proved
end Go.Proofs.YtcolffccbmpndaaGreatDoor.fnTrieNodes
