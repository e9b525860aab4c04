/- A world in which the library's tables are laid: the witness of the rows. -/
import Derived.Test.YtcolffccbmpndaaGreatDoorIgK
import Derived.ChangeSame
import Derived.ChangeVars
import Derived.JoinedOf
import Derived.JoinedAt
import Derived.Lib.LaidIn
namespace Go.Proofs.YtcolffccbmpndaaGreatDoor
open Go.RowKit Go.Lib
set_option maxRecDepth 100000

abbrev synS : ByteArray := { data := #[105, 110, 118, 97, 108, 105, 100, 32, 115, 121, 110, 116, 97, 120] }
abbrev rngS : ByteArray := { data := #[118, 97, 108, 117, 101, 32, 111, 117, 116, 32, 111, 102, 32, 114, 97, 110, 103, 101] }
/-- So many blocks has the settled world. -/
noncomputable def low : Nat := (World.holding Tryz.prog default ⟨#[], #[], []⟩).heap.size
def whiteRows : List Int := [9, 13, 1, 32, 133, 101, 160, 5760, 5600, 8192, 8202, 1, 8232, 8233, 1, 8239, 8287, 48, 12288, 12288, 1]
def numsOf : List (DataW Unit) → List Value
  | [] => []
  | .lit (.int k z) :: r => .int k z :: numsOf r
  | _ :: r => numsOf r
def cellsOfData : DataW Unit → Array Value
  | .agg l => (numsOf l).toArray
  | _ => #[]
/-- The settled world, each listed variable holding what it reads as. -/
noncomputable def laidWorld (os : Os) : World :=
  let w0 := World.holding Tryz.prog os ⟨#[.cells #[.string synS] 109, .cells #[.string rngS] 109, .cells (whiteRows.map fun z => Value.int .u16 z).toArray 155, .cells #[.slice (some ⟨low + 2, 0, none⟩) 7 7, .slice none 0 0, .int .i64 2] 152], #[], []⟩
  let put (h : Array Obj) (g : Nat) (cs : Array Value) : Array Obj := h.modify g fun
    | .cells _ t frozen => .cells cs t frozen
    | o => o
  let h0 := put w0.heap 0 (asciiSpaceTab.map fun z => Value.int .u8 z).toArray
  let h1 := put h0 1 #[.pointer (some ⟨low + 3, 0, none⟩)]
  let h2 := put h1 2 #[.iface 107 (.pointer (some ⟨low, 0, none⟩))]
  let h3 := put h2 3 #[.iface 107 (.pointer (some ⟨low + 1, 0, none⟩))]
  let h4 := put h3 4 (firstTab.map fun z => Value.int .u8 z).toArray
  let h5 := put h4 5 ((List.range 16).flatMap fun i => [Value.int .u8 (accLo i), Value.int .u8 (accHi i)]).toArray
  let h6 := put h5 6 (cellsOfData Rows.laid_internal_strconv_uint64pow10)
  let h7 := put h6 7 (cellsOfData Rows.laid_math_bits_deBruijn32tab)
  let h8 := put h7 8 (cellsOfData Rows.laid_math_bits_deBruijn64tab)
  { w0 with heap := h8 }
theorem in1 (os : Os) (args : Array Value) : LaidIn Tryz.prog ((laidWorld os).forCall (fun _ _ => 0) ⟨#[], args, []⟩).memory [("math/bits.deBruijn32tab", Rows.laid_math_bits_deBruijn32tab), ("math/bits.deBruijn64tab", Rows.laid_math_bits_deBruijn64tab), ("internal/strconv.uint64pow10", Rows.laid_internal_strconv_uint64pow10)] [7, 8, 6] :=
  LaidIn.of_run _ 8 (by kernel_rfl) (by kernel_rfl) (by kernel_rfl) (by kernel_rfl)
theorem in2 (os : Os) (args : Array Value) : LaidIn Tryz.prog ((laidWorld os).forCall (fun _ _ => 0) ⟨#[], args, []⟩).memory [("unicode/utf8.acceptRanges", Rows.laid_unicode_utf8_acceptRanges)] [5] :=
  LaidIn.of_run _ 8 (by kernel_rfl) (by kernel_rfl) (by kernel_rfl) (by kernel_rfl)
theorem in3 (os : Os) (args : Array Value) : LaidIn Tryz.prog ((laidWorld os).forCall (fun _ _ => 0) ⟨#[], args, []⟩).memory [("strconv.ErrRange", Rows.laid_strconv_ErrRange), ("strconv.ErrSyntax", Rows.laid_strconv_ErrSyntax)] [3, 2, low, low + 1] :=
  LaidIn.of_run _ 8 (by kernel_rfl) (by kernel_rfl) (by kernel_rfl) (by kernel_rfl)
theorem in4 (os : Os) (args : Array Value) : LaidIn Tryz.prog ((laidWorld os).forCall (fun _ _ => 0) ⟨#[], args, []⟩).memory [("unicode.White_Space", Rows.laid_unicode_White_Space)] [1, low + 2, low + 3] :=
  LaidIn.of_run _ 8 (by kernel_rfl) (by kernel_rfl) (by kernel_rfl) (by kernel_rfl)
theorem in5 (os : Os) (args : Array Value) : LaidIn Tryz.prog ((laidWorld os).forCall (fun _ _ => 0) ⟨#[], args, []⟩).memory [("strings.asciiSpace", Rows.laid_strings_asciiSpace)] [0] :=
  LaidIn.of_run _ 8 (by kernel_rfl) (by kernel_rfl) (by kernel_rfl) (by kernel_rfl)
theorem in6 (os : Os) (args : Array Value) : LaidIn Tryz.prog ((laidWorld os).forCall (fun _ _ => 0) ⟨#[], args, []⟩).memory [("unicode/utf8.first", Rows.laid_unicode_utf8_first)] [4] :=
  LaidIn.of_run _ 8 (by kernel_rfl) (by kernel_rfl) (by kernel_rfl) (by kernel_rfl)
theorem laidWorld_met (os : Os) (args : Array Value) : laidMet Tryz.prog laidAll ((laidWorld os).forCall (fun _ _ => 0) ⟨#[], args, []⟩).memory :=
  ((in1 os args).append ((in2 os args).append ((in3 os args).append ((in4 os args).append ((in5 os args).append (in6 os args) (by kernel_rfl)) (by kernel_rfl)) (by kernel_rfl)) (by kernel_rfl)) (by kernel_rfl)).met
theorem laidWorld_shaped (os : Os) (args : Array Value) : ((laidWorld os).forCall (fun _ _ => 0) ⟨#[], args, []⟩).Shaped Tryz.prog :=
  World.shaped_of_RefB (by kernel_rfl) (by kernel_rfl)

end Go.Proofs.YtcolffccbmpndaaGreatDoor
