/-
  DERIVED. GIVEN WITH THE SEED: THE CARDS: each row of YtcolffccbmpndaaDoorRows.lean that lists a variable, with what it lists TIED to the program's text (the seventh form; the later family's looks); each row that meets fmt, with fmt's text TOLD by the authors' own Lean function (tested against real Go, not proved from fmt's source: count such statements apart). THE CARD IS WHAT COUNTS. Prove the row's statement (the work); the ties are given (YtcolffccbmpndaaDoorTie.lean); close each card by the builder's one call (the guide's Derived/Test/ToyasCard.lean, 'card_holds'). Laid BY PROGRAM, IN A SANDBOX (cutbox-door.mjs). By AI agents, Wed Nov 11 2026. No macro, syntax, notation, axiom, sorry.
-/
import Derived.Test.YtcolffccbmpndaaDoorRows
import GoSem.ClaimSeven
namespace Go.Proofs.YtcolffccbmpndaaDoor
namespace Rows

/-- THE TIED CARD OF 'laws.FnIgnoreBytes'. -/
def fnIgnoreBytesCard : Claim7 := { stood := { row := fnIgnoreBytesRow, standIns := [], harness := (true, "622bc5475d9116eb59c89f38522cd852afe45d2545da2a0301c3bfefcac9f854"), looks := true }, kinds := [], alts := [], laidByText := true, laidKinds := [.data, .data, .data, .data, .sentinel, .sentinel, .listed, .data, .pinned], laidTests := true, laidLooks := .later }
def FnIgnoreBytesCardSaid : Prop := Claim7.holds Tryd.pinned (.plain (OpenSpec.ofChange fnIgnoreBytesSpec)) fnIgnoreBytesCard

/-- THE TIED CARD OF 'laws.FnIgnoreOne'. -/
def fnIgnoreOneCard : Claim7 := { stood := { row := fnIgnoreOneRow, standIns := [], harness := (true, "622bc5475d9116eb59c89f38522cd852afe45d2545da2a0301c3bfefcac9f854"), looks := true }, kinds := [], alts := [], laidByText := true, laidKinds := [.data, .data, .data, .data, .sentinel, .sentinel, .listed, .data, .pinned], laidTests := true, laidLooks := .later }
def FnIgnoreOneCardSaid : Prop := Claim7.holds Tryd.pinned (.plain (OpenSpec.ofChange fnIgnoreOneSpec)) fnIgnoreOneCard

/-- THE TIED CARD OF 'laws.FnIgnorePlaces'. -/
def fnIgnorePlacesCard : Claim7 := { stood := { row := fnIgnorePlacesRow, standIns := [], harness := (true, "622bc5475d9116eb59c89f38522cd852afe45d2545da2a0301c3bfefcac9f854"), looks := true }, kinds := [], alts := [], laidByText := true, laidKinds := [.data, .data, .data, .data, .sentinel, .sentinel, .listed, .data, .pinned], laidTests := true, laidLooks := .later }
def FnIgnorePlacesCardSaid : Prop := Claim7.holds Tryd.pinned (.plain (OpenSpec.ofChange fnIgnorePlacesSpec)) fnIgnorePlacesCard

/-- THE SECOND FORM's CARD OF 'laws.FnIgnoreBytes'. -/
def fnIgnoreBytesUptoCard : Claim7 := { stood := { row := fnIgnoreBytesUptoRow, standIns := [], harness := (true, "622bc5475d9116eb59c89f38522cd852afe45d2545da2a0301c3bfefcac9f854"), looks := true }, kinds := [], alts := [], laidByText := true, laidKinds := [.data, .data, .data, .data, .sentinel, .sentinel, .listed, .data, .pinned], laidTests := true, laidLooks := .later }
def FnIgnoreBytesUptoCardSaid : Prop := Claim7.holds Tryd.pinned (.plain (OpenSpec.upto fnIgnoreBytesSpec)) fnIgnoreBytesUptoCard

/-- THE SECOND FORM's CARD OF 'laws.FnIgnoreOne'. -/
def fnIgnoreOneUptoCard : Claim7 := { stood := { row := fnIgnoreOneUptoRow, standIns := [], harness := (true, "622bc5475d9116eb59c89f38522cd852afe45d2545da2a0301c3bfefcac9f854"), looks := true }, kinds := [], alts := [], laidByText := true, laidKinds := [.data, .data, .data, .data, .sentinel, .sentinel, .listed, .data, .pinned], laidTests := true, laidLooks := .later }
def FnIgnoreOneUptoCardSaid : Prop := Claim7.holds Tryd.pinned (.plain (OpenSpec.upto fnIgnoreOneSpec)) fnIgnoreOneUptoCard

/-- THE SECOND FORM's CARD OF 'laws.FnIgnorePlaces'. -/
def fnIgnorePlacesUptoCard : Claim7 := { stood := { row := fnIgnorePlacesUptoRow, standIns := [], harness := (true, "622bc5475d9116eb59c89f38522cd852afe45d2545da2a0301c3bfefcac9f854"), looks := true }, kinds := [], alts := [], laidByText := true, laidKinds := [.data, .data, .data, .data, .sentinel, .sentinel, .listed, .data, .pinned], laidTests := true, laidLooks := .later }
def FnIgnorePlacesUptoCardSaid : Prop := Claim7.holds Tryd.pinned (.plain (OpenSpec.upto fnIgnorePlacesSpec)) fnIgnorePlacesUptoCard
end Rows
end Go.Proofs.YtcolffccbmpndaaDoor
