/- FnTrieHole returns true for all prefixes, holes, places and bytes: at a hole any byte may stand, and at other places of the prefix none but its own. The library's tables read as their initialisers lay them. -/
import Derived.Test.YtcolffccbmpndaaGreatDoorRows
import Derived.Test.YtcolffccbmpndaaGreatDoorCards
import Derived.Test.YtcolffccbmpndaaGreatDoorTie
import Derived.Test.YtcolffccbmpndaaGreatDoorTrHl
import Derived.Test.YtcolffccbmpndaaGreatDoorTrO
import Derived.Test.YtcolffccbmpndaaGreatDoorLaidW
import Derived.WalkKit
import Derived.ProofKit
import Derived.OpenShut
import Derived.ShutString
import Derived.ChangeMaps5
namespace Go.Proofs.YtcolffccbmpndaaGreatDoor.fnTrieHole
open Go.ChangeShapes Go.WideShapes Go.ChangeAt Go.RowKit
set_option maxRecDepth 100000

theorem u8_of {a : Int} (h : (Lit.int .u8 a).wf = true) : 0 ≤ a ∧ a < 256 := by
  simp only [Lit.wf, Bool.and_eq_true, decide_eq_true_eq] at h
  exact ⟨h.1, Int.lt_of_le_of_lt h.2 (by decide)⟩
theorem own : ownKnob Tryz.prog.godebug = none := by kernel_rfl

/-! ### The row's step -/
theorem lifted (os : Os) (started : os.Started) (H : Type) (enc : TypeId × Value → H) :
    ReturnsInHanded {} Tryz.checked os 4 .any (fun w args => (Rows.fnTrieHoleSpec.pre enc Tryz.prog Tryz.f4 Rows.fnTrieHoleRow.domain false w args ∧ laidMet Tryz.prog Rows.fnTrieHoleRow.laid w) ∧ sizedMet enc Tryz.prog Tryz.f4 (OpenSpec.ofChange Rows.fnTrieHoleSpec) false w args) (Rows.fnTrieHoleSpec.post enc Tryz.prog Tryz.f4 false true false false) := by
  refine returnsInHanded_of_change_and (C := Tryz.checked) (X := fun w _ => laidMet Tryz.prog Rows.fnTrieHoleRow.laid w) (fun _ _ _ hh h => h.of_heap hh) own started (by kernel_rfl) Tryz.func4
    (ChangeSpec.witness_shaped (enc := enc) (C := Tryz.checked) (os := os) (X := fun w _ => laidMet Tryz.prog Rows.fnTrieHoleRow.laid w) false (laidWorld os) #[.slice none 0 0, .string ⟨#[]⟩, .int .i64 0, .int .u8 0] 8 rfl (laidWorld_shaped os _) (by kernel_rfl) (by kernel_rfl) (by kernel_rfl) (laidWorld_met os _)) ?_
  intro W base args ds gs before hval0 hW hcnd _ hL _
  have hval : ∀ (j : Nat) t v, Tryz.f4.params[j]? = some t → args[j]? = some v → Value.okWide Tryz.prog W .any base t v := hval0
  have hW' := hW
  obtain ⟨p, q, hA0, hV, rfl, hfz, hnd⟩ := hW
  have hA : DataW.TrodAll enc Tryz.prog W 0 (fun _ => true) true Tryz.f4.params.toList args.toList ds p := hA0
  have hA1 := hA
  rw [Tryz.params4] at hA1 hval
  obtain ⟨v0, vs0, d0, ds0, p0, q0, hargs, rfl, rfl, h0, r0⟩ := trodAll_cons hA1
  obtain ⟨v1, vs1, d1, ds1, p1, q1, rfl, rfl, rfl, h1, r1⟩ := trodAll_cons r0
  obtain ⟨v2, vs2, d2, ds2, p2, q2, rfl, rfl, rfl, h2, r2⟩ := trodAll_cons r1
  obtain ⟨v3, vs3, d3, ds3, p3, q3, rfl, rfl, rfl, h3, r3⟩ := trodAll_cons r2
  obtain ⟨rfl, rfl, rfl⟩ := trodAll_nil r3
  obtain rfl : args = #[v0, v1, v2, v3] := by cases args; simp_all
  obtain ⟨rfl, rfl⟩ := trodVars_none hV
  obtain ⟨fuel0, hf0⟩ := h0
  obtain ⟨a0, l0, c0, rfl⟩ := okWide_slice Tryz.underlying23 (hval 0 23 v0 rfl rfl)
  obtain ⟨ba0, x0, bc0, e0, hb0⟩ := open_bytes hf0
  simp only [Value.cells, List.cons.injEq, and_true, Value.slice.injEq] at e0
  obtain ⟨rfl, rfl, rfl⟩ := e0
  obtain ⟨s1, rfl, rfl, rfl, hs1⟩ := Go.ChangeMaps.open_string Tryz.underlying9 (hval 1 9 v1 rfl rfl) h1
  obtain ⟨z2, rfl, rfl, rfl, w2⟩ := open_int Tryz.underlying3 (hval 2 3 v2 rfl rfl) h2
  obtain ⟨z3, rfl, rfl, rfl, w3⟩ := open_int Tryz.underlying5 (hval 3 5 v3 rfl rfl) h3
  refine (holeB_any W x0 a0 c0 s1 z2 z3 (u8_of w3) hb0 (tabs_of_laid hL)).mono fun e W' ⟨he, hg⟩ => ?_
  subst he
  simp only [List.append_nil] at hW' hA
  exact ⟨_, rfl, post_law rfl 4 Tryz.underlying4 rfl rfl Tryz.kids Tryz.full (by rw [Tryz.params4]; intro t ht; have ht : t = 23 ∨ t = 9 ∨ t = 3 ∨ t = 5 := by { simpa using ht }; rcases ht with rfl | rfl | rfl | rfl; { exact (show 23 < Tryz.prog.types.size by rw [Tryz.tsize]; decide) }; { exact (show 9 < Tryz.prog.types.size by rw [Tryz.tsize]; decide) }; { exact (show 3 < Tryz.prog.types.size by rw [Tryz.tsize]; decide) }; { exact (show 5 < Tryz.prog.types.size by rw [Tryz.tsize]; decide) }) hW' hA hg⟩

theorem over : Rows.FnTrieHoleSaid :=
  OpenClaim.holds_of_wide 4 Tryz.f4 rfl rfl rfl rfl rfl rfl rfl ⟨rfl, rfl, rfl, rfl, rfl⟩ rfl rfl rfl rfl rfl (by kernel_rfl) Tryz.func4 (by kernel_rfl)
    (of_decide_eq_true (by kernel_rfl)) (by unfold Func.isWrapper; first | (rw [if_pos (by decide +kernel)]; kernel_rfl) | (rw [if_neg (by decide +kernel)]; exact ⟨rfl, rfl⟩))
    (fun os started H enc _ => lifted os started H enc)

/-- The statement: the tied card. -/
theorem proved : Rows.FnTrieHoleCardSaid :=
  Claim7.holds_tied_plain_at .later [] [.data, .data, .data, .data, .sentinel, .sentinel, .listed, .data, .pinned] true (true, "b156e6cf42a3cb22958a766e9bea59c040b0d87fe69c1a545447962d0e1986e8") true
    over (fun _ h => by cases h) (by kernel_rfl) (fun _ h => by cases h) fnTrieHole_row_tie rfl ⟨rfl, rfl⟩ (by kernel_rfl) rfl
    (fun f fn hf hfn => by
      obtain rfl : f = 4 := Option.some.inj ((show Tryz.prog.funcNamed "loop.example/pub-g01509/laws.FnTrieHole" = some 4 by kernel_rfl).symm.trans hf) |>.symm
      obtain rfl : fn = Tryz.f4 := (Option.some.inj (Tryz.func4.symm.trans hfn)).symm
      exact ⟨by kernel_rfl, fun j t ht => by
        rw [Tryz.params4] at ht
        rcases j with _ | _ | _ | _ | j
        · obtain rfl : 23 = t := by simpa using ht
          exact (show Tryz.prog.wantsStandIn 23 = false by kernel_rfl)
        · obtain rfl : 9 = t := by simpa using ht
          exact (show Tryz.prog.wantsStandIn 9 = false by kernel_rfl)
        · obtain rfl : 3 = t := by simpa using ht
          exact (show Tryz.prog.wantsStandIn 3 = false by kernel_rfl)
        · obtain rfl : 5 = t := by simpa using ht
          exact (show Tryz.prog.wantsStandIn 5 = false by kernel_rfl)
        · simp at ht⟩)
    (by kernel_rfl)
#print axioms proved
end Go.Proofs.YtcolffccbmpndaaGreatDoor.fnTrieHole
