/- FnTrieMatch returns true for all prefixes, holes, numbers and keys: a single prefix with holes is found for a key just if the key begins with it, whatever stands at the holes. The library's tables read as their initialisers lay them. -/
import Derived.Test.YtcolffccbmpndaaGreatDoorRows
import Derived.Test.YtcolffccbmpndaaGreatDoorCards
import Derived.Test.YtcolffccbmpndaaGreatDoorTie
import Derived.Test.YtcolffccbmpndaaGreatDoorTrMa
import Derived.Test.YtcolffccbmpndaaGreatDoorTrO
import Derived.Test.YtcolffccbmpndaaGreatDoorLaidW
import Derived.WalkKit
import Derived.ProofKit
import Derived.OpenShut
import Derived.ShutString
import Derived.ChangeMaps5
namespace Go.Proofs.YtcolffccbmpndaaGreatDoor.fnTrieMatch
open Go.ChangeShapes Go.WideShapes Go.ChangeAt Go.RowKit
set_option maxRecDepth 100000

theorem own : ownKnob Tryz.prog.godebug = none := by kernel_rfl

/-! ### The row's step -/
theorem lifted (os : Os) (started : os.Started) (H : Type) (enc : TypeId × Value → H) :
    ReturnsInHanded {} Tryz.checked os 6 .any (fun w args => (Rows.fnTrieMatchSpec.pre enc Tryz.prog Tryz.f6 Rows.fnTrieMatchRow.domain false w args ∧ laidMet Tryz.prog Rows.fnTrieMatchRow.laid w) ∧ sizedMet enc Tryz.prog Tryz.f6 (OpenSpec.ofChange Rows.fnTrieMatchSpec) false w args) (Rows.fnTrieMatchSpec.post enc Tryz.prog Tryz.f6 false true false false) := by
  refine returnsInHanded_of_change_and (C := Tryz.checked) (X := fun w _ => laidMet Tryz.prog Rows.fnTrieMatchRow.laid w) (fun _ _ _ hh h => h.of_heap hh) own started (by kernel_rfl) Tryz.func6
    (ChangeSpec.witness_shaped (enc := enc) (C := Tryz.checked) (os := os) (X := fun w _ => laidMet Tryz.prog Rows.fnTrieMatchRow.laid w) false (laidWorld os) #[.slice none 0 0, .string ⟨#[]⟩, .int .u64 0, .slice none 0 0] 8 rfl (laidWorld_shaped os _) (by kernel_rfl) (by kernel_rfl) (by kernel_rfl) (laidWorld_met os _)) ?_
  intro W base args ds gs before hval0 hW hcnd _ hL _
  have hval : ∀ (j : Nat) t v, Tryz.f6.params[j]? = some t → args[j]? = some v → Value.okWide Tryz.prog W .any base t v := hval0
  have hW' := hW
  obtain ⟨p, q, hA0, hV, rfl, hfz, hnd⟩ := hW
  have hA : DataW.TrodAll enc Tryz.prog W 0 (fun _ => true) true Tryz.f6.params.toList args.toList ds p := hA0
  have hA1 := hA
  rw [Tryz.params6] at hA1 hval
  obtain ⟨v0, vs0, d0, ds0, p0, q0, hargs, rfl, rfl, h0, r0⟩ := trodAll_cons hA1
  obtain ⟨v1, vs1, d1, ds1, p1, q1, rfl, rfl, rfl, h1, r1⟩ := trodAll_cons r0
  obtain ⟨v2, vs2, d2, ds2, p2, q2, rfl, rfl, rfl, h2, r2⟩ := trodAll_cons r1
  obtain ⟨v3, vs3, d3, ds3, p3, q3, rfl, rfl, rfl, h3, r3⟩ := trodAll_cons r2
  obtain ⟨rfl, rfl, rfl⟩ := trodAll_nil r3
  obtain rfl : args = #[v0, v1, v2, v3] := by cases args; simp_all
  obtain ⟨rfl, rfl⟩ := trodVars_none hV
  obtain ⟨fuel0, hf0⟩ := h0
  obtain ⟨a0, l0, c0, rfl⟩ := okWide_slice Tryz.underlying23 (hval 0 23 v0 rfl rfl)
  obtain ⟨ba0, x0, bc0, e0, hb0⟩ := open_bytes hf0
  simp only [Value.cells, List.cons.injEq, and_true, Value.slice.injEq] at e0
  obtain ⟨rfl, rfl, rfl⟩ := e0
  obtain ⟨s1, rfl, rfl, rfl, hs1⟩ := Go.ChangeMaps.open_string Tryz.underlying9 (hval 1 9 v1 rfl rfl) h1
  obtain ⟨z2, rfl, rfl, rfl, w2⟩ := open_int Tryz.underlying26 (hval 2 26 v2 rfl rfl) h2
  obtain ⟨fuel3, hf3⟩ := h3
  obtain ⟨a3, l3, c3, rfl⟩ := okWide_slice Tryz.underlying23 (hval 3 23 v3 rfl rfl)
  obtain ⟨ba3, x3, bc3, e3, hb3⟩ := open_bytes hf3
  simp only [Value.cells, List.cons.injEq, and_true, Value.slice.injEq] at e3
  obtain ⟨rfl, rfl, rfl⟩ := e3
  refine (matchB_any W x0 x3 a0 a3 c0 c3 z2 s1 hb0 hb3 (tabs_of_laid hL)).mono fun e W' ⟨he, hg⟩ => ?_
  subst he
  simp only [List.append_nil] at hW' hA
  exact ⟨_, rfl, post_law rfl 4 Tryz.underlying4 rfl rfl Tryz.kids Tryz.full (by rw [Tryz.params6]; intro t ht; have ht : t = 23 ∨ t = 9 ∨ t = 26 ∨ t = 23 := by { simpa using ht }; rcases ht with rfl | rfl | rfl | rfl; { exact (show 23 < Tryz.prog.types.size by rw [Tryz.tsize]; decide) }; { exact (show 9 < Tryz.prog.types.size by rw [Tryz.tsize]; decide) }; { exact (show 26 < Tryz.prog.types.size by rw [Tryz.tsize]; decide) }; { exact (show 23 < Tryz.prog.types.size by rw [Tryz.tsize]; decide) }) hW' hA hg⟩

theorem over : Rows.FnTrieMatchSaid :=
  OpenClaim.holds_of_wide 6 Tryz.f6 rfl rfl rfl rfl rfl rfl rfl ⟨rfl, rfl, rfl, rfl, rfl⟩ rfl rfl rfl rfl rfl (by kernel_rfl) Tryz.func6 (by kernel_rfl)
    (of_decide_eq_true (by kernel_rfl)) (by unfold Func.isWrapper; first | (rw [if_pos (by decide +kernel)]; kernel_rfl) | (rw [if_neg (by decide +kernel)]; exact ⟨rfl, rfl⟩))
    (fun os started H enc _ => lifted os started H enc)

/-- The statement: the tied card. -/
theorem proved : Rows.FnTrieMatchCardSaid :=
  Claim7.holds_tied_plain_at .later [] [.data, .data, .data, .data, .sentinel, .sentinel, .listed, .data, .pinned] true (true, "b156e6cf42a3cb22958a766e9bea59c040b0d87fe69c1a545447962d0e1986e8") true
    over (fun _ h => by cases h) (by kernel_rfl) (fun _ h => by cases h) fnTrieMatch_row_tie rfl ⟨rfl, rfl⟩ (by kernel_rfl) rfl
    (fun f fn hf hfn => by
      obtain rfl : f = 6 := Option.some.inj ((show Tryz.prog.funcNamed "loop.example/pub-g01509/laws.FnTrieMatch" = some 6 by kernel_rfl).symm.trans hf) |>.symm
      obtain rfl : fn = Tryz.f6 := (Option.some.inj (Tryz.func6.symm.trans hfn)).symm
      exact ⟨by kernel_rfl, fun j t ht => by
        rw [Tryz.params6] at ht
        rcases j with _ | _ | _ | _ | j
        · obtain rfl : 23 = t := by simpa using ht
          exact (show Tryz.prog.wantsStandIn 23 = false by kernel_rfl)
        · obtain rfl : 9 = t := by simpa using ht
          exact (show Tryz.prog.wantsStandIn 9 = false by kernel_rfl)
        · obtain rfl : 26 = t := by simpa using ht
          exact (show Tryz.prog.wantsStandIn 26 = false by kernel_rfl)
        · obtain rfl : 23 = t := by simpa using ht
          exact (show Tryz.prog.wantsStandIn 23 = false by kernel_rfl)
        · simp at ht⟩)
    (by kernel_rfl)
#print axioms proved
end Go.Proofs.YtcolffccbmpndaaGreatDoor.fnTrieMatch
