/-
  DERIVED. GIVEN WITH THE SEED: THE CARDS: each row of YtcolffccbmpndaaGreatDoorRows.lean that lists a variable, with what it lists TIED to the program's text (the seventh form; the later family's looks); each row that meets fmt, with fmt's text TOLD by the authors' own Lean function (tested against real Go, not proved from fmt's source: count such statements apart). THE CARD IS WHAT COUNTS. Prove the row's statement (the work); the ties are given (YtcolffccbmpndaaGreatDoorTie.lean); close each card by the builder's one call (the guide's Derived/Test/ToyasCard.lean, 'card_holds'). Laid BY PROGRAM, IN A SANDBOX (cutbox-door.mjs). By AI agents, Wed Nov 11 2026. No macro, syntax, notation, axiom, sorry.
-/
import Derived.Test.YtcolffccbmpndaaGreatDoorRows
import GoSem.ClaimSeven
namespace Go.Proofs.YtcolffccbmpndaaGreatDoor
namespace Rows

/-- THE TIED CARD OF 'laws.FnTrieGone'. -/
def fnTrieGoneCard : Claim7 := { stood := { row := fnTrieGoneRow, standIns := [], harness := (true, "b156e6cf42a3cb22958a766e9bea59c040b0d87fe69c1a545447962d0e1986e8"), looks := true }, kinds := [], alts := [], laidByText := true, laidKinds := [.data, .data, .data, .data, .sentinel, .sentinel, .listed, .data, .pinned], laidTests := true, laidLooks := .later }
def FnTrieGoneCardSaid : Prop := Claim7.holds Tryz.pinned (.plain (OpenSpec.ofChange fnTrieGoneSpec)) fnTrieGoneCard

/-- THE TIED CARD OF 'laws.FnTrieHole'. -/
def fnTrieHoleCard : Claim7 := { stood := { row := fnTrieHoleRow, standIns := [], harness := (true, "b156e6cf42a3cb22958a766e9bea59c040b0d87fe69c1a545447962d0e1986e8"), looks := true }, kinds := [], alts := [], laidByText := true, laidKinds := [.data, .data, .data, .data, .sentinel, .sentinel, .listed, .data, .pinned], laidTests := true, laidLooks := .later }
def FnTrieHoleCardSaid : Prop := Claim7.holds Tryz.pinned (.plain (OpenSpec.ofChange fnTrieHoleSpec)) fnTrieHoleCard

/-- THE TIED CARD OF 'laws.FnTrieLonger'. -/
def fnTrieLongerCard : Claim7 := { stood := { row := fnTrieLongerRow, standIns := [], harness := (true, "b156e6cf42a3cb22958a766e9bea59c040b0d87fe69c1a545447962d0e1986e8"), looks := true }, kinds := [], alts := [], laidByText := true, laidKinds := [.data, .data, .data, .data, .sentinel, .sentinel, .listed, .data, .pinned], laidTests := true, laidLooks := .later }
def FnTrieLongerCardSaid : Prop := Claim7.holds Tryz.pinned (.plain (OpenSpec.ofChange fnTrieLongerSpec)) fnTrieLongerCard

/-- THE TIED CARD OF 'laws.FnTrieMatch'. -/
def fnTrieMatchCard : Claim7 := { stood := { row := fnTrieMatchRow, standIns := [], harness := (true, "b156e6cf42a3cb22958a766e9bea59c040b0d87fe69c1a545447962d0e1986e8"), looks := true }, kinds := [], alts := [], laidByText := true, laidKinds := [.data, .data, .data, .data, .sentinel, .sentinel, .listed, .data, .pinned], laidTests := true, laidLooks := .later }
def FnTrieMatchCardSaid : Prop := Claim7.holds Tryz.pinned (.plain (OpenSpec.ofChange fnTrieMatchSpec)) fnTrieMatchCard

/-- THE TIED CARD OF 'laws.FnTrieNodes'. -/
def fnTrieNodesCard : Claim7 := { stood := { row := fnTrieNodesRow, standIns := [], harness := (true, "b156e6cf42a3cb22958a766e9bea59c040b0d87fe69c1a545447962d0e1986e8"), looks := true }, kinds := [], alts := [], laidByText := true, laidKinds := [.data, .data, .data, .data, .sentinel, .sentinel, .listed, .data, .pinned], laidTests := true, laidLooks := .later }
def FnTrieNodesCardSaid : Prop := Claim7.holds Tryz.pinned (.plain (OpenSpec.ofChange fnTrieNodesSpec)) fnTrieNodesCard

/-- THE TIED CARD OF 'laws.FnTrieOrder'. -/
def fnTrieOrderCard : Claim7 := { stood := { row := fnTrieOrderRow, standIns := [], harness := (true, "b156e6cf42a3cb22958a766e9bea59c040b0d87fe69c1a545447962d0e1986e8"), looks := true }, kinds := [], alts := [], laidByText := true, laidKinds := [.data, .data, .data, .data, .sentinel, .sentinel, .listed, .data, .pinned], laidTests := true, laidLooks := .later }
def FnTrieOrderCardSaid : Prop := Claim7.holds Tryz.pinned (.plain (OpenSpec.ofChange fnTrieOrderSpec)) fnTrieOrderCard

/-- THE TIED CARD OF 'laws.FnTriePrefix'. -/
def fnTriePrefixCard : Claim7 := { stood := { row := fnTriePrefixRow, standIns := [], harness := (true, "b156e6cf42a3cb22958a766e9bea59c040b0d87fe69c1a545447962d0e1986e8"), looks := true }, kinds := [], alts := [], laidByText := true, laidKinds := [.data, .data, .data, .data, .sentinel, .sentinel, .listed, .data, .pinned], laidTests := true, laidLooks := .later }
def FnTriePrefixCardSaid : Prop := Claim7.holds Tryz.pinned (.plain (OpenSpec.ofChange fnTriePrefixSpec)) fnTriePrefixCard

/-- THE TIED CARD OF 'laws.FnTrieRun'. -/
def fnTrieRunCard : Claim7 := { stood := { row := fnTrieRunRow, standIns := [], harness := (true, "b156e6cf42a3cb22958a766e9bea59c040b0d87fe69c1a545447962d0e1986e8"), looks := true }, kinds := [], alts := [], laidByText := true, laidKinds := [.data, .data, .data, .data, .sentinel, .sentinel, .listed, .data, .pinned], laidTests := true, laidLooks := .later }
def FnTrieRunCardSaid : Prop := Claim7.holds Tryz.pinned (.plain (OpenSpec.ofChange fnTrieRunSpec)) fnTrieRunCard

/-- THE TIED CARD OF 'laws.FnIgnoreLetter'. -/
def fnIgnoreLetterCard : Claim7 := { stood := { row := fnIgnoreLetterRow, standIns := [], harness := (true, "b156e6cf42a3cb22958a766e9bea59c040b0d87fe69c1a545447962d0e1986e8"), looks := true }, kinds := [], alts := [], laidByText := true, laidKinds := [.data, .data, .data, .data, .sentinel, .sentinel, .listed, .data, .pinned], laidTests := true, laidLooks := .later }
def FnIgnoreLetterCardSaid : Prop := Claim7.holds Tryz.pinned (.plain (OpenSpec.ofChange fnIgnoreLetterSpec)) fnIgnoreLetterCard

/-- THE SECOND FORM's CARD OF 'laws.FnTrieGone'. -/
def fnTrieGoneUptoCard : Claim7 := { stood := { row := fnTrieGoneUptoRow, standIns := [], harness := (true, "b156e6cf42a3cb22958a766e9bea59c040b0d87fe69c1a545447962d0e1986e8"), looks := true }, kinds := [], alts := [], laidByText := true, laidKinds := [.data, .data, .data, .data, .sentinel, .sentinel, .listed, .data, .pinned], laidTests := true, laidLooks := .later }
def FnTrieGoneUptoCardSaid : Prop := Claim7.holds Tryz.pinned (.plain (OpenSpec.upto fnTrieGoneSpec)) fnTrieGoneUptoCard

/-- THE SECOND FORM's CARD OF 'laws.FnTrieHole'. -/
def fnTrieHoleUptoCard : Claim7 := { stood := { row := fnTrieHoleUptoRow, standIns := [], harness := (true, "b156e6cf42a3cb22958a766e9bea59c040b0d87fe69c1a545447962d0e1986e8"), looks := true }, kinds := [], alts := [], laidByText := true, laidKinds := [.data, .data, .data, .data, .sentinel, .sentinel, .listed, .data, .pinned], laidTests := true, laidLooks := .later }
def FnTrieHoleUptoCardSaid : Prop := Claim7.holds Tryz.pinned (.plain (OpenSpec.upto fnTrieHoleSpec)) fnTrieHoleUptoCard

/-- THE SECOND FORM's CARD OF 'laws.FnTrieLonger'. -/
def fnTrieLongerUptoCard : Claim7 := { stood := { row := fnTrieLongerUptoRow, standIns := [], harness := (true, "b156e6cf42a3cb22958a766e9bea59c040b0d87fe69c1a545447962d0e1986e8"), looks := true }, kinds := [], alts := [], laidByText := true, laidKinds := [.data, .data, .data, .data, .sentinel, .sentinel, .listed, .data, .pinned], laidTests := true, laidLooks := .later }
def FnTrieLongerUptoCardSaid : Prop := Claim7.holds Tryz.pinned (.plain (OpenSpec.upto fnTrieLongerSpec)) fnTrieLongerUptoCard

/-- THE SECOND FORM's CARD OF 'laws.FnTrieMatch'. -/
def fnTrieMatchUptoCard : Claim7 := { stood := { row := fnTrieMatchUptoRow, standIns := [], harness := (true, "b156e6cf42a3cb22958a766e9bea59c040b0d87fe69c1a545447962d0e1986e8"), looks := true }, kinds := [], alts := [], laidByText := true, laidKinds := [.data, .data, .data, .data, .sentinel, .sentinel, .listed, .data, .pinned], laidTests := true, laidLooks := .later }
def FnTrieMatchUptoCardSaid : Prop := Claim7.holds Tryz.pinned (.plain (OpenSpec.upto fnTrieMatchSpec)) fnTrieMatchUptoCard

/-- THE SECOND FORM's CARD OF 'laws.FnTrieNodes'. -/
def fnTrieNodesUptoCard : Claim7 := { stood := { row := fnTrieNodesUptoRow, standIns := [], harness := (true, "b156e6cf42a3cb22958a766e9bea59c040b0d87fe69c1a545447962d0e1986e8"), looks := true }, kinds := [], alts := [], laidByText := true, laidKinds := [.data, .data, .data, .data, .sentinel, .sentinel, .listed, .data, .pinned], laidTests := true, laidLooks := .later }
def FnTrieNodesUptoCardSaid : Prop := Claim7.holds Tryz.pinned (.plain (OpenSpec.upto fnTrieNodesSpec)) fnTrieNodesUptoCard

/-- THE SECOND FORM's CARD OF 'laws.FnTrieOrder'. -/
def fnTrieOrderUptoCard : Claim7 := { stood := { row := fnTrieOrderUptoRow, standIns := [], harness := (true, "b156e6cf42a3cb22958a766e9bea59c040b0d87fe69c1a545447962d0e1986e8"), looks := true }, kinds := [], alts := [], laidByText := true, laidKinds := [.data, .data, .data, .data, .sentinel, .sentinel, .listed, .data, .pinned], laidTests := true, laidLooks := .later }
def FnTrieOrderUptoCardSaid : Prop := Claim7.holds Tryz.pinned (.plain (OpenSpec.upto fnTrieOrderSpec)) fnTrieOrderUptoCard

/-- THE SECOND FORM's CARD OF 'laws.FnTriePrefix'. -/
def fnTriePrefixUptoCard : Claim7 := { stood := { row := fnTriePrefixUptoRow, standIns := [], harness := (true, "b156e6cf42a3cb22958a766e9bea59c040b0d87fe69c1a545447962d0e1986e8"), looks := true }, kinds := [], alts := [], laidByText := true, laidKinds := [.data, .data, .data, .data, .sentinel, .sentinel, .listed, .data, .pinned], laidTests := true, laidLooks := .later }
def FnTriePrefixUptoCardSaid : Prop := Claim7.holds Tryz.pinned (.plain (OpenSpec.upto fnTriePrefixSpec)) fnTriePrefixUptoCard

/-- THE SECOND FORM's CARD OF 'laws.FnTrieRun'. -/
def fnTrieRunUptoCard : Claim7 := { stood := { row := fnTrieRunUptoRow, standIns := [], harness := (true, "b156e6cf42a3cb22958a766e9bea59c040b0d87fe69c1a545447962d0e1986e8"), looks := true }, kinds := [], alts := [], laidByText := true, laidKinds := [.data, .data, .data, .data, .sentinel, .sentinel, .listed, .data, .pinned], laidTests := true, laidLooks := .later }
def FnTrieRunUptoCardSaid : Prop := Claim7.holds Tryz.pinned (.plain (OpenSpec.upto fnTrieRunSpec)) fnTrieRunUptoCard

/-- THE SECOND FORM's CARD OF 'laws.FnIgnoreLetter'. -/
def fnIgnoreLetterUptoCard : Claim7 := { stood := { row := fnIgnoreLetterUptoRow, standIns := [], harness := (true, "b156e6cf42a3cb22958a766e9bea59c040b0d87fe69c1a545447962d0e1986e8"), looks := true }, kinds := [], alts := [], laidByText := true, laidKinds := [.data, .data, .data, .data, .sentinel, .sentinel, .listed, .data, .pinned], laidTests := true, laidLooks := .later }
def FnIgnoreLetterUptoCardSaid : Prop := Claim7.holds Tryz.pinned (.plain (OpenSpec.upto fnIgnoreLetterSpec)) fnIgnoreLetterUptoCard
end Rows
end Go.Proofs.YtcolffccbmpndaaGreatDoor
