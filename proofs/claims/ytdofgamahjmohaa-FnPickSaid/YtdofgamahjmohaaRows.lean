/-
  No cell of these rows narrows 'for every input' (looked for: loops, veiled, ifaces, maps, wideKeys, modest, calm, conditions, laid).
  DERIVED. THE GIVEN ROWS OF THIS SEAT. 5 by the template 'for every input the law returns true; each argument reads behind the call as it read before'; 0 by the template 'total and deterministic' (their statements: YtdofgamahjmohaaTotals.lean).
  GIVEN WITH THE SEED: the statements are not yours to turn. If you find one false, say at which input.
  Laid BY PROGRAM, IN A SANDBOX (cutbox-rows.mjs): the forced cells as the released guide's own fill.sh prints them over the translation 9fea8624a62d2ee7… (all of the seat's roots in one cut). By AI agents, Wed Nov 11 2026. No macro, syntax, notation, axiom, sorry.
-/
import Derived.Test.YtdofgamahjmohaaChecked
import GoSem.Claim
import GoSem.ClaimJoined
import GoSem.ClaimMapViews
import Derived.JoinedTies
import Derived.KernelRfl
namespace Go.Proofs.Ytdofgamahjmohaa
/- THE CELL 'sum', in the pinned program and in every row, IS THE sha256 OF THE DUMP (.gsa) THAT YtdofgamahjmohaaProg.lean LOADS. Nothing in Lean hashes anything: it is a label: what it is worth is what the hold of that sum in a sandbox is worth. -/
noncomputable def Try.pinned : Pinned := { name := "ytdofgamahjmohaa", sum := "9fea8624a62d2ee77895bb703d1c0b3d3c0eefb18829ed33365a21347fe231ed", checked := Try.checked }
namespace Rows
def none {H : Type} : Left H := { results := [], args := [] }

/-- 'laws.FnMeets': WHATEVER THE INPUT: true; the input reads as it did. -/
def fnMeetsSpec : ChangeSpec := { name := "fnMeets", fn := fun _ => fun
  | [d1, d2, d3, d4, d5, d6] => { results := [.lit (.bool true)], args := [d1, d2, d3, d4, d5, d6] }
  | _ => none }
def fnMeetsRow : OpenClaim := { program := "ytdofgamahjmohaa", sum := "9fea8624a62d2ee77895bb703d1c0b3d3c0eefb18829ed33365a21347fe231ed", func := "loop.example/pub-g01509/laws.FnMeets", spec := "fnMeets", inPlace := ["internal/bytealg.Compare"], apart := false }
def FnMeetsSaid : Prop := fnMeetsRow.holds Try.pinned (OpenSpec.ofChange fnMeetsSpec)

/-- ITS FALSE NEIGHBOUR: 'it returns false'. Refute it at one input. -/
def fnMeetsWrong : ChangeSpec := { name := "fnMeets", fn := fun _ => fun
  | [d1, d2, d3, d4, d5, d6] => { results := [.lit (.bool false)], args := [d1, d2, d3, d4, d5, d6] }
  | _ => none }
def FnMeetsWrongFalsely : Prop := fnMeetsRow.holds Try.pinned (OpenSpec.ofChange fnMeetsWrong)

/-- 'laws.FnTargets': WHATEVER THE INPUT: true; the input reads as it did. -/
def fnTargetsSpec : ChangeSpec := { name := "fnTargets", fn := fun _ => fun
  | [d1, d2] => { results := [.lit (.bool true)], args := [d1, d2] }
  | _ => none }
def fnTargetsRow : OpenClaim := { program := "ytdofgamahjmohaa", sum := "9fea8624a62d2ee77895bb703d1c0b3d3c0eefb18829ed33365a21347fe231ed", func := "loop.example/pub-g01509/laws.FnTargets", spec := "fnTargets", inPlace := ["internal/reflectlite.ValueOf", "internal/reflectlite.Swapper", "(internal/reflectlite.Value).Len", "internal/bytealg.Compare"], unfollowed := true, recurses := true, apart := false }
def FnTargetsSaid : Prop := fnTargetsRow.holds Try.pinned (OpenSpec.ofChange fnTargetsSpec)

/-- ITS FALSE NEIGHBOUR: 'it returns false'. Refute it at one input. -/
def fnTargetsWrong : ChangeSpec := { name := "fnTargets", fn := fun _ => fun
  | [d1, d2] => { results := [.lit (.bool false)], args := [d1, d2] }
  | _ => none }
def FnTargetsWrongFalsely : Prop := fnTargetsRow.holds Try.pinned (OpenSpec.ofChange fnTargetsWrong)

/-- 'laws.FnDefaults': WHATEVER THE INPUT: true; the input reads as it did. -/
def fnDefaultsSpec : ChangeSpec := { name := "fnDefaults", fn := fun _ => fun
  | [d] => { results := [.lit (.bool true)], args := [d] }
  | _ => none }
def fnDefaultsRow : OpenClaim := { program := "ytdofgamahjmohaa", sum := "9fea8624a62d2ee77895bb703d1c0b3d3c0eefb18829ed33365a21347fe231ed", func := "loop.example/pub-g01509/laws.FnDefaults", spec := "fnDefaults", inPlace := ["internal/reflectlite.ValueOf", "internal/reflectlite.Swapper", "(internal/reflectlite.Value).Len", "internal/bytealg.Compare"], unfollowed := true, recurses := true, apart := false }
def FnDefaultsSaid : Prop := fnDefaultsRow.holds Try.pinned (OpenSpec.ofChange fnDefaultsSpec)

/-- ITS FALSE NEIGHBOUR: 'it returns false'. Refute it at one input. -/
def fnDefaultsWrong : ChangeSpec := { name := "fnDefaults", fn := fun _ => fun
  | [d] => { results := [.lit (.bool false)], args := [d] }
  | _ => none }
def FnDefaultsWrongFalsely : Prop := fnDefaultsRow.holds Try.pinned (OpenSpec.ofChange fnDefaultsWrong)

/-- 'laws.FnMeeting': WHATEVER THE INPUT: true; the input reads as it did. -/
def fnMeetingSpec : ChangeSpec := { name := "fnMeeting", fn := fun _ => fun
  | [d1, d2, d3, d4, d5] => { results := [.lit (.bool true)], args := [d1, d2, d3, d4, d5] }
  | _ => none }
def fnMeetingRow : OpenClaim := { program := "ytdofgamahjmohaa", sum := "9fea8624a62d2ee77895bb703d1c0b3d3c0eefb18829ed33365a21347fe231ed", func := "loop.example/pub-g01509/laws.FnMeeting", spec := "fnMeeting", inPlace := ["internal/reflectlite.ValueOf", "internal/reflectlite.Swapper", "(internal/reflectlite.Value).Len", "internal/bytealg.Compare"], unfollowed := true, recurses := true, apart := false }
def FnMeetingSaid : Prop := fnMeetingRow.holds Try.pinned (OpenSpec.ofChange fnMeetingSpec)

/-- ITS FALSE NEIGHBOUR: 'it returns false'. Refute it at one input. -/
def fnMeetingWrong : ChangeSpec := { name := "fnMeeting", fn := fun _ => fun
  | [d1, d2, d3, d4, d5] => { results := [.lit (.bool false)], args := [d1, d2, d3, d4, d5] }
  | _ => none }
def FnMeetingWrongFalsely : Prop := fnMeetingRow.holds Try.pinned (OpenSpec.ofChange fnMeetingWrong)

/-- 'laws.FnPick': WHATEVER THE INPUT: true; the input reads as it did. -/
def fnPickSpec : ChangeSpec := { name := "fnPick", fn := fun _ => fun
  | [d1, d2] => { results := [.lit (.bool true)], args := [d1, d2] }
  | _ => none }
def fnPickRow : OpenClaim := { program := "ytdofgamahjmohaa", sum := "9fea8624a62d2ee77895bb703d1c0b3d3c0eefb18829ed33365a21347fe231ed", func := "loop.example/pub-g01509/laws.FnPick", spec := "fnPick", inPlace := ["internal/reflectlite.ValueOf", "internal/reflectlite.Swapper", "(internal/reflectlite.Value).Len", "internal/bytealg.Compare"], unfollowed := true, recurses := true, apart := false }
def FnPickSaid : Prop := fnPickRow.holds Try.pinned (OpenSpec.ofChange fnPickSpec)

/-- ITS FALSE NEIGHBOUR: 'it returns false'. Refute it at one input. -/
def fnPickWrong : ChangeSpec := { name := "fnPick", fn := fun _ => fun
  | [d1, d2] => { results := [.lit (.bool false)], args := [d1, d2] }
  | _ => none }
def FnPickWrongFalsely : Prop := fnPickRow.holds Try.pinned (OpenSpec.ofChange fnPickWrong)

/- THE SECOND FORM. 'bulk': how many values and letters a reading holds, each counted each time it is reached (what is shared counts as often as it is met; a slice's spare places count too). A statement '..UptoSaid' is the law's where the arguments, and the package variables that the reading takes, are together of bulk at most 1048576: NARROWER than '..Said'. Prove '..Said' where nothing that the law and all that it calls make is longer than what came in: it says more and counts as full. Else prove '..UptoSaid'. A law counts once. -/
mutual
def uptoBulk {H : Type} : DataW H → Nat
  | .lit (.string bytes) => bytes.length + 1
  | .lit _ => 1
  | .nil => 1
  | .ptr d => uptoBulk d + 1
  | .slice elems spare => uptoBulkAll elems + uptoBulkAll spare + 1
  | .agg parts => uptoBulkAll parts + 1
  | .iface _ d => uptoBulk d + 1
  | .map entries => uptoBulkEntries entries + 1
  | .held _ => 1
def uptoBulkAll {H : Type} : List (DataW H) → Nat
  | [] => 0
  | d :: r => uptoBulk d + uptoBulkAll r
def uptoBulkEntries {H : Type} : List (Lit × DataW H) → Nat
  | [] => 0
  | x :: r => uptoBulkEntry x + uptoBulkEntries r
def uptoBulkEntry {H : Type} : Lit × DataW H → Nat
  | (.string bytes, d) => bytes.length + uptoBulk d + 1
  | (_, d) => uptoBulk d + 1
 end
def uptoSmall : (H : Type) → List (DataW H) → Bool := fun _ ds => decide (uptoBulkAll ds ≤ 1048576)
def OpenSpec.upto (s : _root_.Go.ChangeSpec) : _root_.Go.OpenSpec := { _root_.Go.OpenSpec.ofChange s with cond := some uptoSmall }

/-- 'laws.FnMeets', WHERE WHAT IT READS IS OF BULK AT MOST 1048576: true; the input reads as it did. -/
def fnMeetsUptoRow : OpenClaim := { program := "ytdofgamahjmohaa", sum := "9fea8624a62d2ee77895bb703d1c0b3d3c0eefb18829ed33365a21347fe231ed", func := "loop.example/pub-g01509/laws.FnMeets", spec := "fnMeets", inPlace := ["internal/bytealg.Compare"], apart := false, narrowed := true }
def FnMeetsUptoSaid : Prop := fnMeetsUptoRow.holds Try.pinned (OpenSpec.upto fnMeetsSpec)

/-- 'laws.FnTargets', WHERE WHAT IT READS IS OF BULK AT MOST 1048576: true; the input reads as it did. -/
def fnTargetsUptoRow : OpenClaim := { program := "ytdofgamahjmohaa", sum := "9fea8624a62d2ee77895bb703d1c0b3d3c0eefb18829ed33365a21347fe231ed", func := "loop.example/pub-g01509/laws.FnTargets", spec := "fnTargets", inPlace := ["internal/reflectlite.ValueOf", "internal/reflectlite.Swapper", "(internal/reflectlite.Value).Len", "internal/bytealg.Compare"], unfollowed := true, recurses := true, apart := false, narrowed := true }
def FnTargetsUptoSaid : Prop := fnTargetsUptoRow.holds Try.pinned (OpenSpec.upto fnTargetsSpec)

/-- 'laws.FnDefaults', WHERE WHAT IT READS IS OF BULK AT MOST 1048576: true; the input reads as it did. -/
def fnDefaultsUptoRow : OpenClaim := { program := "ytdofgamahjmohaa", sum := "9fea8624a62d2ee77895bb703d1c0b3d3c0eefb18829ed33365a21347fe231ed", func := "loop.example/pub-g01509/laws.FnDefaults", spec := "fnDefaults", inPlace := ["internal/reflectlite.ValueOf", "internal/reflectlite.Swapper", "(internal/reflectlite.Value).Len", "internal/bytealg.Compare"], unfollowed := true, recurses := true, apart := false, narrowed := true }
def FnDefaultsUptoSaid : Prop := fnDefaultsUptoRow.holds Try.pinned (OpenSpec.upto fnDefaultsSpec)

/-- 'laws.FnMeeting', WHERE WHAT IT READS IS OF BULK AT MOST 1048576: true; the input reads as it did. -/
def fnMeetingUptoRow : OpenClaim := { program := "ytdofgamahjmohaa", sum := "9fea8624a62d2ee77895bb703d1c0b3d3c0eefb18829ed33365a21347fe231ed", func := "loop.example/pub-g01509/laws.FnMeeting", spec := "fnMeeting", inPlace := ["internal/reflectlite.ValueOf", "internal/reflectlite.Swapper", "(internal/reflectlite.Value).Len", "internal/bytealg.Compare"], unfollowed := true, recurses := true, apart := false, narrowed := true }
def FnMeetingUptoSaid : Prop := fnMeetingUptoRow.holds Try.pinned (OpenSpec.upto fnMeetingSpec)

/-- 'laws.FnPick', WHERE WHAT IT READS IS OF BULK AT MOST 1048576: true; the input reads as it did. -/
def fnPickUptoRow : OpenClaim := { program := "ytdofgamahjmohaa", sum := "9fea8624a62d2ee77895bb703d1c0b3d3c0eefb18829ed33365a21347fe231ed", func := "loop.example/pub-g01509/laws.FnPick", spec := "fnPick", inPlace := ["internal/reflectlite.ValueOf", "internal/reflectlite.Swapper", "(internal/reflectlite.Value).Len", "internal/bytealg.Compare"], unfollowed := true, recurses := true, apart := false, narrowed := true }
def FnPickUptoSaid : Prop := fnPickUptoRow.holds Try.pinned (OpenSpec.upto fnPickSpec)

end Rows
end Go.Proofs.Ytdofgamahjmohaa
