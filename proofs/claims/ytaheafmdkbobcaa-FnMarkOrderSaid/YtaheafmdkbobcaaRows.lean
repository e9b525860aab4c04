/-
  No cell of these rows narrows 'for every input' (looked for: loops, veiled, ifaces, maps, wideKeys, modest, calm, conditions, laid).
  DERIVED. THE GIVEN ROWS OF THIS SEAT. 9 by the template 'for every input the law returns true; each argument reads behind the call as it read before'; 0 by the template 'total and deterministic' (their statements: YtaheafmdkbobcaaTotals.lean).
  GIVEN WITH THE SEED: the statements are not yours to turn. If you find one false, say at which input.
  Laid BY PROGRAM, IN A SANDBOX (cutbox-rows.mjs): the forced cells as the released guide's own fill.sh prints them over the translation ebfd6ad0a5f73803… (all of the seat's roots in one cut). By AI agents, Wed Nov 11 2026. No macro, syntax, notation, axiom, sorry.
-/
import Derived.Test.YtaheafmdkbobcaaChecked
import GoSem.Claim
import GoSem.ClaimJoined
import GoSem.ClaimMapViews
import Derived.JoinedTies
import Derived.KernelRfl
namespace Go.Proofs.Ytaheafmdkbobcaa
/- THE CELL 'sum', in the pinned program and in every row, IS THE sha256 OF THE DUMP (.gsa) THAT YtaheafmdkbobcaaProg.lean LOADS. Nothing in Lean hashes anything: it is a label: what it is worth is what the hold of that sum in a sandbox is worth. -/
noncomputable def Try.pinned : Pinned := { name := "ytaheafmdkbobcaa", sum := "ebfd6ad0a5f7380362cca92593419c50e1b2dd4966100e1839064d61b83aa2e7", checked := Try.checked }
namespace Rows
def none {H : Type} : Left H := { results := [], args := [] }

/-- 'laws.FnMarkMany': WHATEVER THE INPUT: true; the input reads as it did. -/
def fnMarkManySpec : ChangeSpec := { name := "fnMarkMany", fn := fun _ => fun
  | [d] => { results := [.lit (.bool true)], args := [d] }
  | _ => none }
def fnMarkManyRow : OpenClaim := { program := "ytaheafmdkbobcaa", sum := "ebfd6ad0a5f7380362cca92593419c50e1b2dd4966100e1839064d61b83aa2e7", func := "loop.example/pub-g01509/laws.FnMarkMany", spec := "fnMarkMany", unfollowed := true, recurses := true, apart := false }
def FnMarkManySaid : Prop := fnMarkManyRow.holds Try.pinned (OpenSpec.ofChange fnMarkManySpec)

/-- ITS FALSE NEIGHBOUR: 'it returns false'. Refute it at one input. -/
def fnMarkManyWrong : ChangeSpec := { name := "fnMarkMany", fn := fun _ => fun
  | [d] => { results := [.lit (.bool false)], args := [d] }
  | _ => none }
def FnMarkManyWrongFalsely : Prop := fnMarkManyRow.holds Try.pinned (OpenSpec.ofChange fnMarkManyWrong)

/-- 'laws.FnMarkOrder': WHATEVER THE INPUT: true; the input reads as it did. -/
def fnMarkOrderSpec : ChangeSpec := { name := "fnMarkOrder", fn := fun _ => fun
  | [d] => { results := [.lit (.bool true)], args := [d] }
  | _ => none }
def fnMarkOrderRow : OpenClaim := { program := "ytaheafmdkbobcaa", sum := "ebfd6ad0a5f7380362cca92593419c50e1b2dd4966100e1839064d61b83aa2e7", func := "loop.example/pub-g01509/laws.FnMarkOrder", spec := "fnMarkOrder", unfollowed := true, recurses := true, apart := false }
def FnMarkOrderSaid : Prop := fnMarkOrderRow.holds Try.pinned (OpenSpec.ofChange fnMarkOrderSpec)

/-- ITS FALSE NEIGHBOUR: 'it returns false'. Refute it at one input. -/
def fnMarkOrderWrong : ChangeSpec := { name := "fnMarkOrder", fn := fun _ => fun
  | [d] => { results := [.lit (.bool false)], args := [d] }
  | _ => none }
def FnMarkOrderWrongFalsely : Prop := fnMarkOrderRow.holds Try.pinned (OpenSpec.ofChange fnMarkOrderWrong)

/-- 'laws.FnMarkPending': WHATEVER THE INPUT: true; the input reads as it did. -/
def fnMarkPendingSpec : ChangeSpec := { name := "fnMarkPending", fn := fun _ => fun
  | [d] => { results := [.lit (.bool true)], args := [d] }
  | _ => none }
def fnMarkPendingRow : OpenClaim := { program := "ytaheafmdkbobcaa", sum := "ebfd6ad0a5f7380362cca92593419c50e1b2dd4966100e1839064d61b83aa2e7", func := "loop.example/pub-g01509/laws.FnMarkPending", spec := "fnMarkPending", unfollowed := true, recurses := true, apart := false }
def FnMarkPendingSaid : Prop := fnMarkPendingRow.holds Try.pinned (OpenSpec.ofChange fnMarkPendingSpec)

/-- ITS FALSE NEIGHBOUR: 'it returns false'. Refute it at one input. -/
def fnMarkPendingWrong : ChangeSpec := { name := "fnMarkPending", fn := fun _ => fun
  | [d] => { results := [.lit (.bool false)], args := [d] }
  | _ => none }
def FnMarkPendingWrongFalsely : Prop := fnMarkPendingRow.holds Try.pinned (OpenSpec.ofChange fnMarkPendingWrong)

/-- 'laws.FnMarkRises': WHATEVER THE INPUT: true; the input reads as it did. -/
def fnMarkRisesSpec : ChangeSpec := { name := "fnMarkRises", fn := fun _ => fun
  | [d] => { results := [.lit (.bool true)], args := [d] }
  | _ => none }
def fnMarkRisesRow : OpenClaim := { program := "ytaheafmdkbobcaa", sum := "ebfd6ad0a5f7380362cca92593419c50e1b2dd4966100e1839064d61b83aa2e7", func := "loop.example/pub-g01509/laws.FnMarkRises", spec := "fnMarkRises", unfollowed := true, recurses := true, apart := false }
def FnMarkRisesSaid : Prop := fnMarkRisesRow.holds Try.pinned (OpenSpec.ofChange fnMarkRisesSpec)

/-- ITS FALSE NEIGHBOUR: 'it returns false'. Refute it at one input. -/
def fnMarkRisesWrong : ChangeSpec := { name := "fnMarkRises", fn := fun _ => fun
  | [d] => { results := [.lit (.bool false)], args := [d] }
  | _ => none }
def FnMarkRisesWrongFalsely : Prop := fnMarkRisesRow.holds Try.pinned (OpenSpec.ofChange fnMarkRisesWrong)

/-- 'laws.FnMarkRun': WHATEVER THE INPUT: true; the input reads as it did. -/
def fnMarkRunSpec : ChangeSpec := { name := "fnMarkRun", fn := fun _ => fun
  | [d] => { results := [.lit (.bool true)], args := [d] }
  | _ => none }
def fnMarkRunRow : OpenClaim := { program := "ytaheafmdkbobcaa", sum := "ebfd6ad0a5f7380362cca92593419c50e1b2dd4966100e1839064d61b83aa2e7", func := "loop.example/pub-g01509/laws.FnMarkRun", spec := "fnMarkRun", unfollowed := true, recurses := true, apart := false }
def FnMarkRunSaid : Prop := fnMarkRunRow.holds Try.pinned (OpenSpec.ofChange fnMarkRunSpec)

/-- ITS FALSE NEIGHBOUR: 'it returns false'. Refute it at one input. -/
def fnMarkRunWrong : ChangeSpec := { name := "fnMarkRun", fn := fun _ => fun
  | [d] => { results := [.lit (.bool false)], args := [d] }
  | _ => none }
def FnMarkRunWrongFalsely : Prop := fnMarkRunRow.holds Try.pinned (OpenSpec.ofChange fnMarkRunWrong)

/-- 'laws.FnMarkSet': WHATEVER THE INPUT: true; the input reads as it did. -/
def fnMarkSetSpec : ChangeSpec := { name := "fnMarkSet", fn := fun _ => fun
  | [d1, d2] => { results := [.lit (.bool true)], args := [d1, d2] }
  | _ => none }
def fnMarkSetRow : OpenClaim := { program := "ytaheafmdkbobcaa", sum := "ebfd6ad0a5f7380362cca92593419c50e1b2dd4966100e1839064d61b83aa2e7", func := "loop.example/pub-g01509/laws.FnMarkSet", spec := "fnMarkSet", unfollowed := true, recurses := true, apart := false }
def FnMarkSetSaid : Prop := fnMarkSetRow.holds Try.pinned (OpenSpec.ofChange fnMarkSetSpec)

/-- ITS FALSE NEIGHBOUR: 'it returns false'. Refute it at one input. -/
def fnMarkSetWrong : ChangeSpec := { name := "fnMarkSet", fn := fun _ => fun
  | [d1, d2] => { results := [.lit (.bool false)], args := [d1, d2] }
  | _ => none }
def FnMarkSetWrongFalsely : Prop := fnMarkSetRow.holds Try.pinned (OpenSpec.ofChange fnMarkSetWrong)

/-- 'laws.FnMarkTwice': WHATEVER THE INPUT: true; the input reads as it did. -/
def fnMarkTwiceSpec : ChangeSpec := { name := "fnMarkTwice", fn := fun _ => fun
  | [d1, d2] => { results := [.lit (.bool true)], args := [d1, d2] }
  | _ => none }
def fnMarkTwiceRow : OpenClaim := { program := "ytaheafmdkbobcaa", sum := "ebfd6ad0a5f7380362cca92593419c50e1b2dd4966100e1839064d61b83aa2e7", func := "loop.example/pub-g01509/laws.FnMarkTwice", spec := "fnMarkTwice", unfollowed := true, recurses := true, apart := false }
def FnMarkTwiceSaid : Prop := fnMarkTwiceRow.holds Try.pinned (OpenSpec.ofChange fnMarkTwiceSpec)

/-- ITS FALSE NEIGHBOUR: 'it returns false'. Refute it at one input. -/
def fnMarkTwiceWrong : ChangeSpec := { name := "fnMarkTwice", fn := fun _ => fun
  | [d1, d2] => { results := [.lit (.bool false)], args := [d1, d2] }
  | _ => none }
def FnMarkTwiceWrongFalsely : Prop := fnMarkTwiceRow.holds Try.pinned (OpenSpec.ofChange fnMarkTwiceWrong)

/-- 'laws.FnMarkWait': WHATEVER THE INPUT: true; the input reads as it did. -/
def fnMarkWaitSpec : ChangeSpec := { name := "fnMarkWait", fn := fun _ => fun
  | [d1, d2] => { results := [.lit (.bool true)], args := [d1, d2] }
  | _ => none }
def fnMarkWaitRow : OpenClaim := { program := "ytaheafmdkbobcaa", sum := "ebfd6ad0a5f7380362cca92593419c50e1b2dd4966100e1839064d61b83aa2e7", func := "loop.example/pub-g01509/laws.FnMarkWait", spec := "fnMarkWait", unfollowed := true, recurses := true, apart := false }
def FnMarkWaitSaid : Prop := fnMarkWaitRow.holds Try.pinned (OpenSpec.ofChange fnMarkWaitSpec)

/-- ITS FALSE NEIGHBOUR: 'it returns false'. Refute it at one input. -/
def fnMarkWaitWrong : ChangeSpec := { name := "fnMarkWait", fn := fun _ => fun
  | [d1, d2] => { results := [.lit (.bool false)], args := [d1, d2] }
  | _ => none }
def FnMarkWaitWrongFalsely : Prop := fnMarkWaitRow.holds Try.pinned (OpenSpec.ofChange fnMarkWaitWrong)

/-- 'laws.FnMarkWaiting': WHATEVER THE INPUT: true; the input reads as it did. -/
def fnMarkWaitingSpec : ChangeSpec := { name := "fnMarkWaiting", fn := fun _ => fun
  | [d] => { results := [.lit (.bool true)], args := [d] }
  | _ => none }
def fnMarkWaitingRow : OpenClaim := { program := "ytaheafmdkbobcaa", sum := "ebfd6ad0a5f7380362cca92593419c50e1b2dd4966100e1839064d61b83aa2e7", func := "loop.example/pub-g01509/laws.FnMarkWaiting", spec := "fnMarkWaiting", unfollowed := true, recurses := true, apart := false }
def FnMarkWaitingSaid : Prop := fnMarkWaitingRow.holds Try.pinned (OpenSpec.ofChange fnMarkWaitingSpec)

/-- ITS FALSE NEIGHBOUR: 'it returns false'. Refute it at one input. -/
def fnMarkWaitingWrong : ChangeSpec := { name := "fnMarkWaiting", fn := fun _ => fun
  | [d] => { results := [.lit (.bool false)], args := [d] }
  | _ => none }
def FnMarkWaitingWrongFalsely : Prop := fnMarkWaitingRow.holds Try.pinned (OpenSpec.ofChange fnMarkWaitingWrong)

/- THE SECOND FORM. 'bulk': how many values and letters a reading holds, each counted each time it is reached (what is shared counts as often as it is met; a slice's spare places count too). A statement '..UptoSaid' is the law's where the arguments, and the package variables that the reading takes, are together of bulk at most 1048576: NARROWER than '..Said'. Prove '..Said' where nothing that the law and all that it calls make is longer than what came in: it says more and counts as full. Else prove '..UptoSaid'. A law counts once. -/
mutual
def uptoBulk {H : Type} : DataW H → Nat
  | .lit (.string bytes) => bytes.length + 1
  | .lit _ => 1
  | .nil => 1
  | .ptr d => uptoBulk d + 1
  | .slice elems spare => uptoBulkAll elems + uptoBulkAll spare + 1
  | .agg parts => uptoBulkAll parts + 1
  | .iface _ d => uptoBulk d + 1
  | .map entries => uptoBulkEntries entries + 1
  | .held _ => 1
def uptoBulkAll {H : Type} : List (DataW H) → Nat
  | [] => 0
  | d :: r => uptoBulk d + uptoBulkAll r
def uptoBulkEntries {H : Type} : List (Lit × DataW H) → Nat
  | [] => 0
  | x :: r => uptoBulkEntry x + uptoBulkEntries r
def uptoBulkEntry {H : Type} : Lit × DataW H → Nat
  | (.string bytes, d) => bytes.length + uptoBulk d + 1
  | (_, d) => uptoBulk d + 1
 end
def uptoSmall : (H : Type) → List (DataW H) → Bool := fun _ ds => decide (uptoBulkAll ds ≤ 1048576)
def OpenSpec.upto (s : _root_.Go.ChangeSpec) : _root_.Go.OpenSpec := { _root_.Go.OpenSpec.ofChange s with cond := some uptoSmall }

/-- 'laws.FnMarkMany', WHERE WHAT IT READS IS OF BULK AT MOST 1048576: true; the input reads as it did. -/
def fnMarkManyUptoRow : OpenClaim := { program := "ytaheafmdkbobcaa", sum := "ebfd6ad0a5f7380362cca92593419c50e1b2dd4966100e1839064d61b83aa2e7", func := "loop.example/pub-g01509/laws.FnMarkMany", spec := "fnMarkMany", unfollowed := true, recurses := true, apart := false, narrowed := true }
def FnMarkManyUptoSaid : Prop := fnMarkManyUptoRow.holds Try.pinned (OpenSpec.upto fnMarkManySpec)

/-- 'laws.FnMarkOrder', WHERE WHAT IT READS IS OF BULK AT MOST 1048576: true; the input reads as it did. -/
def fnMarkOrderUptoRow : OpenClaim := { program := "ytaheafmdkbobcaa", sum := "ebfd6ad0a5f7380362cca92593419c50e1b2dd4966100e1839064d61b83aa2e7", func := "loop.example/pub-g01509/laws.FnMarkOrder", spec := "fnMarkOrder", unfollowed := true, recurses := true, apart := false, narrowed := true }
def FnMarkOrderUptoSaid : Prop := fnMarkOrderUptoRow.holds Try.pinned (OpenSpec.upto fnMarkOrderSpec)

/-- 'laws.FnMarkPending', WHERE WHAT IT READS IS OF BULK AT MOST 1048576: true; the input reads as it did. -/
def fnMarkPendingUptoRow : OpenClaim := { program := "ytaheafmdkbobcaa", sum := "ebfd6ad0a5f7380362cca92593419c50e1b2dd4966100e1839064d61b83aa2e7", func := "loop.example/pub-g01509/laws.FnMarkPending", spec := "fnMarkPending", unfollowed := true, recurses := true, apart := false, narrowed := true }
def FnMarkPendingUptoSaid : Prop := fnMarkPendingUptoRow.holds Try.pinned (OpenSpec.upto fnMarkPendingSpec)

/-- 'laws.FnMarkRises', WHERE WHAT IT READS IS OF BULK AT MOST 1048576: true; the input reads as it did. -/
def fnMarkRisesUptoRow : OpenClaim := { program := "ytaheafmdkbobcaa", sum := "ebfd6ad0a5f7380362cca92593419c50e1b2dd4966100e1839064d61b83aa2e7", func := "loop.example/pub-g01509/laws.FnMarkRises", spec := "fnMarkRises", unfollowed := true, recurses := true, apart := false, narrowed := true }
def FnMarkRisesUptoSaid : Prop := fnMarkRisesUptoRow.holds Try.pinned (OpenSpec.upto fnMarkRisesSpec)

/-- 'laws.FnMarkRun', WHERE WHAT IT READS IS OF BULK AT MOST 1048576: true; the input reads as it did. -/
def fnMarkRunUptoRow : OpenClaim := { program := "ytaheafmdkbobcaa", sum := "ebfd6ad0a5f7380362cca92593419c50e1b2dd4966100e1839064d61b83aa2e7", func := "loop.example/pub-g01509/laws.FnMarkRun", spec := "fnMarkRun", unfollowed := true, recurses := true, apart := false, narrowed := true }
def FnMarkRunUptoSaid : Prop := fnMarkRunUptoRow.holds Try.pinned (OpenSpec.upto fnMarkRunSpec)

/-- 'laws.FnMarkSet', WHERE WHAT IT READS IS OF BULK AT MOST 1048576: true; the input reads as it did. -/
def fnMarkSetUptoRow : OpenClaim := { program := "ytaheafmdkbobcaa", sum := "ebfd6ad0a5f7380362cca92593419c50e1b2dd4966100e1839064d61b83aa2e7", func := "loop.example/pub-g01509/laws.FnMarkSet", spec := "fnMarkSet", unfollowed := true, recurses := true, apart := false, narrowed := true }
def FnMarkSetUptoSaid : Prop := fnMarkSetUptoRow.holds Try.pinned (OpenSpec.upto fnMarkSetSpec)

/-- 'laws.FnMarkTwice', WHERE WHAT IT READS IS OF BULK AT MOST 1048576: true; the input reads as it did. -/
def fnMarkTwiceUptoRow : OpenClaim := { program := "ytaheafmdkbobcaa", sum := "ebfd6ad0a5f7380362cca92593419c50e1b2dd4966100e1839064d61b83aa2e7", func := "loop.example/pub-g01509/laws.FnMarkTwice", spec := "fnMarkTwice", unfollowed := true, recurses := true, apart := false, narrowed := true }
def FnMarkTwiceUptoSaid : Prop := fnMarkTwiceUptoRow.holds Try.pinned (OpenSpec.upto fnMarkTwiceSpec)

/-- 'laws.FnMarkWait', WHERE WHAT IT READS IS OF BULK AT MOST 1048576: true; the input reads as it did. -/
def fnMarkWaitUptoRow : OpenClaim := { program := "ytaheafmdkbobcaa", sum := "ebfd6ad0a5f7380362cca92593419c50e1b2dd4966100e1839064d61b83aa2e7", func := "loop.example/pub-g01509/laws.FnMarkWait", spec := "fnMarkWait", unfollowed := true, recurses := true, apart := false, narrowed := true }
def FnMarkWaitUptoSaid : Prop := fnMarkWaitUptoRow.holds Try.pinned (OpenSpec.upto fnMarkWaitSpec)

/-- 'laws.FnMarkWaiting', WHERE WHAT IT READS IS OF BULK AT MOST 1048576: true; the input reads as it did. -/
def fnMarkWaitingUptoRow : OpenClaim := { program := "ytaheafmdkbobcaa", sum := "ebfd6ad0a5f7380362cca92593419c50e1b2dd4966100e1839064d61b83aa2e7", func := "loop.example/pub-g01509/laws.FnMarkWaiting", spec := "fnMarkWaiting", unfollowed := true, recurses := true, apart := false, narrowed := true }
def FnMarkWaitingUptoSaid : Prop := fnMarkWaitingUptoRow.holds Try.pinned (OpenSpec.upto fnMarkWaitingSpec)

end Rows
end Go.Proofs.Ytaheafmdkbobcaa
