/- FnIgnorePlaces returns true for all places: places that are written as numbers and ranges are named by this text. The library's tables read as their initialisers lay them. -/
import Derived.Test.YtcolffccbmpndaaDoorRows
import Derived.Test.YtcolffccbmpndaaDoorCards
import Derived.Test.YtcolffccbmpndaaDoorTie
import Derived.Test.YtcolffccbmpndaaDoorIgPl
import Derived.Test.YtcolffccbmpndaaDoorLaidW
import Derived.WalkKit
import Derived.ProofKit
import Derived.OpenShut
import Derived.ShutString
import Derived.ChangeMaps5
namespace Go.Proofs.YtcolffccbmpndaaDoor.fnIgnorePlaces
open Go.ChangeShapes Go.WideShapes Go.ChangeAt Go.RowKit
open Go.ChangeMaps (open_string shut_string)
set_option maxRecDepth 100000

theorem own : ownKnob Tryd.prog.godebug = none := by kernel_rfl
theorem tsize : Tryd.prog.types.size = 120 := by kernel_rfl

theorem Tryd.cellsBool : Tryd.prog.cellsOf 4 = 1 := by kernel_rfl
section
variable {H : Type} {enc : TypeId × Value → H} {w : World} {fuel : Nat} {v : Value} {x : DataW H × List MemPlace}
open Go.Deep
/-- Truth values that came in. -/
theorem open_bools {a : Option Addr} {l c : Nat} (h : DataW.trod enc Tryd.prog w 0 (fun _ => true) true fuel 22 [.slice a l c] = some x) : ∃ (n : Nat) (f : Nat → Bool), n ≤ maxLen ∧ BlAt w (.slice a l c) n f := by
  rcases open_slice1 Tryd.underlying22 Tryd.cellsBool h with ⟨e, -⟩ | ⟨ad, len, cap, m, n, V, D, Pl, e, hb, hl, hm, hmm, -, hi⟩
  · simp only [List.cons.injEq, and_true, Value.slice.injEq] at e
    obtain ⟨rfl, rfl, rfl⟩ := e
    exact ⟨0, fun _ => false, by omega, none, 0, rfl, fun h => absurd h (by omega)⟩
  · simp only [List.cons.injEq, and_true, Value.slice.injEq] at e
    obtain ⟨rfl, rfl, rfl⟩ := e
    simp only [if_true] at hmm
    have one : ∀ j, j < l → ∃ z : Bool, w.cell? (ad.add j) = some (.bool z) := by
      intro j hj
      obtain ⟨h1, h2⟩ := hi j (by omega)
      obtain ⟨z, e, -⟩ := DataW.trod_bool Tryd.underlying4 h2
      simp only [List.cons.injEq, and_true] at e
      exact ⟨z, by rw [h1, e]⟩
    obtain ⟨f, hf⟩ := choose_lt one
    exact ⟨l, f, by omega, _, c, rfl, fun _ => ⟨ad, rfl, hf⟩⟩
end

/-! ### The row's step -/
theorem lifted (os : Os) (started : os.Started) (H : Type) (enc : TypeId × Value → H) :
    ReturnsInHanded {} Tryd.checked os 5 .any (fun w args => (Rows.fnIgnorePlacesSpec.pre enc Tryd.prog Tryd.f5 Rows.fnIgnorePlacesRow.domain false w args ∧ laidMet Tryd.prog Rows.fnIgnorePlacesRow.laid w) ∧ sizedMet enc Tryd.prog Tryd.f5 (OpenSpec.ofChange Rows.fnIgnorePlacesSpec) false w args) (Rows.fnIgnorePlacesSpec.post enc Tryd.prog Tryd.f5 false true false false) := by
  refine returnsInHanded_of_change_and (C := Tryd.checked) (X := fun w _ => laidMet Tryd.prog Rows.fnIgnorePlacesRow.laid w) (fun _ _ _ hh h => h.of_heap hh) own started (by kernel_rfl) Tryd.func5
    (ChangeSpec.witness_shaped (enc := enc) (C := Tryd.checked) (os := os) (X := fun w _ => laidMet Tryd.prog Rows.fnIgnorePlacesRow.laid w) false (laidWorld os) #[.slice none 0 0, .bool false, .bool false] 8 rfl (laidWorld_shaped os _) (by kernel_rfl) (by kernel_rfl) (by kernel_rfl) (laidWorld_met os _)) ?_
  intro W base args ds gs before hval0 hW hcnd _ hL _
  have hval : ∀ (j : Nat) t v, Tryd.f5.params[j]? = some t → args[j]? = some v → Value.okWide Tryd.prog W .any base t v := hval0
  have hW' := hW
  obtain ⟨p, q, hA0, hV, rfl, hfz, hnd⟩ := hW
  have hA : DataW.TrodAll enc Tryd.prog W 0 (fun _ => true) true Tryd.f5.params.toList args.toList ds p := hA0
  have hA1 := hA
  rw [Tryd.params5] at hA1 hval
  obtain ⟨v0, vs0, d0, ds0, p0, q0, hargs, rfl, rfl, h0, r0⟩ := trodAll_cons hA1
  obtain ⟨v1, vs1, d1, ds1, p1, q1, rfl, rfl, rfl, h1, r1⟩ := trodAll_cons r0
  obtain ⟨v2, vs2, d2, ds2, p2, q2, rfl, rfl, rfl, h2, r2⟩ := trodAll_cons r1
  obtain ⟨rfl, rfl, rfl⟩ := trodAll_nil r2
  obtain rfl : args = #[v0, v1, v2] := by cases args; simp_all
  obtain ⟨rfl, rfl⟩ := trodVars_none hV
  obtain ⟨fuel, hf⟩ := h0
  obtain ⟨a0, l0, c0, rfl⟩ := okWide_slice Tryd.underlying22 (hval 0 22 v0 rfl rfl)
  obtain ⟨n, f, hn, hb⟩ := open_bools hf
  obtain ⟨b1, rfl, rfl, rfl⟩ := open_bool Tryd.underlying4 (hval 1 4 v1 rfl rfl) h1
  obtain ⟨b2, rfl, rfl, rfl⟩ := open_bool Tryd.underlying4 (hval 2 4 v2 rfl rfl) h2
  refine (ignP_any _ n f b1 b2 W (tabs_of_laid hL) hb hn).mono fun e W' ⟨he, hg⟩ => ?_
  subst he
  simp only [List.append_nil] at hW' hA
  exact ⟨_, rfl, post_law rfl 4 Tryd.underlying4 rfl rfl Tryd.kids Tryd.full (by rw [Tryd.params5]; intro t ht; have ht : t = 22 ∨ t = 4 := by { simpa using ht }; rcases ht with rfl | rfl; { exact (show 22 < Tryd.prog.types.size by rw [tsize]; decide) }; { exact (show 4 < Tryd.prog.types.size by rw [tsize]; decide) }) hW' hA hg⟩

theorem over : Rows.FnIgnorePlacesSaid :=
  OpenClaim.holds_of_wide 5 Tryd.f5 rfl rfl rfl rfl rfl rfl rfl ⟨rfl, rfl, rfl, rfl, rfl⟩ rfl rfl rfl rfl rfl (by kernel_rfl) Tryd.func5 (by kernel_rfl)
    (of_decide_eq_true (by kernel_rfl)) (by unfold Func.isWrapper; first | (rw [if_pos (by decide +kernel)]; kernel_rfl) | (rw [if_neg (by decide +kernel)]; exact ⟨rfl, rfl⟩))
    (fun os started H enc _ => lifted os started H enc)

/-- The statement: the tied card. -/
theorem proved : Rows.FnIgnorePlacesCardSaid :=
  Claim7.holds_tied_plain_at .later [] [.data, .data, .data, .data, .sentinel, .sentinel, .listed, .data, .pinned] true (true, "622bc5475d9116eb59c89f38522cd852afe45d2545da2a0301c3bfefcac9f854") true
    over (fun _ h => by cases h) (by kernel_rfl) (fun _ h => by cases h) fnIgnorePlaces_row_tie rfl ⟨rfl, rfl⟩ (by kernel_rfl) rfl
    (fun f fn hf hfn => by
      obtain rfl : f = 5 := Option.some.inj ((show Tryd.prog.funcNamed "loop.example/pub-g01509/laws.FnIgnorePlaces" = some 5 by kernel_rfl).symm.trans hf) |>.symm
      obtain rfl : fn = Tryd.f5 := (Option.some.inj (Tryd.func5.symm.trans hfn)).symm
      exact ⟨by kernel_rfl, fun j t ht => by
        rw [Tryd.params5] at ht
        rcases j with _ | _ | _ | j
        · obtain rfl : 22 = t := by simpa using ht
          exact (show Tryd.prog.wantsStandIn 22 = false by kernel_rfl)
        · obtain rfl : 4 = t := by simpa using ht
          exact (show Tryd.prog.wantsStandIn 4 = false by kernel_rfl)
        · obtain rfl : 4 = t := by simpa using ht
          exact (show Tryd.prog.wantsStandIn 4 = false by kernel_rfl)
        · simp at ht⟩)
    (by kernel_rfl)
#print axioms proved
end Go.Proofs.YtcolffccbmpndaaDoor.fnIgnorePlaces
