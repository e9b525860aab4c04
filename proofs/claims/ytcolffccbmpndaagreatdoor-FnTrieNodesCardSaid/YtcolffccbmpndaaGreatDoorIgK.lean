/- From the row's cell 'laid' to what the library's contracts ask. -/
import Derived.Test.YtcolffccbmpndaaGreatDoorRows
import Derived.Test.YtcolffccbmpndaaGreatDoorIgQ
import Derived.Lib.LaidU8
import Derived.Stop.LaidErr
import Derived.LaidLaws
namespace Go.Proofs.YtcolffccbmpndaaGreatDoor
open Go.RowKit Go.Deep Go.Lib
set_option maxRecDepth 100000

/-- What the rows list. -/
abbrev laidAll : List (String × DataW Unit) := Rows.fnTrieGoneRow.laid

theorem rowErr (u : TypeId) (h : Tryz.prog.typeName? 3 u = some "*errors.errorString") : u = 107 :=
  typeName_ptr_named (nm := "errors.errorString") (by rw [show "*" ++ "errors.errorString" = "*errors.errorString" by decide]; kernel_rfl) (by kernel_rfl) (by decide) u (by rw [show "*" ++ "errors.errorString" = "*errors.errorString" by decide]; exact h)

theorem tabs_of_laid {w : World} (hL : laidMet Tryz.prog laidAll w) : Tabs w := by
  have r8 : VarReads Tryz.prog w "unicode/utf8.first" firstData := Lib.laidMet.reads hL (.tail _ (.tail _ (.tail _ (.tail _ (.tail _ (.tail _ (.tail _ (.tail _ (.head _)))))))))
  have r3 : VarReads Tryz.prog w "unicode/utf8.acceptRanges" acceptData := Lib.laidMet.reads hL (.tail _ (.tail _ (.tail _ (.head _))))
  have r6 : VarReads Tryz.prog w "unicode.White_Space" whiteData := Lib.laidMet.reads hL (.tail _ (.tail _ (.tail _ (.tail _ (.tail _ (.tail _ (.head _)))))))
  have r7 : VarReads Tryz.prog w "strings.asciiSpace" (tabData .u8 asciiSpaceTab) := Lib.laidMet.reads hL (.tail _ (.tail _ (.tail _ (.tail _ (.tail _ (.tail _ (.tail _ (.head _))))))))
  have hE1 : laidMet Tryz.prog (laidAll.drop 1) w := laidMet.tail (x := laidAll.headD default) hL
  have hE2 : laidMet Tryz.prog (laidAll.drop 2) w := laidMet.tail (x := (laidAll.drop 1).headD default) hE1
  have hE3 : laidMet Tryz.prog (laidAll.drop 3) w := laidMet.tail (x := (laidAll.drop 2).headD default) hE2
  have hE4 : laidMet Tryz.prog (("strconv.ErrRange", Rows.laid_strconv_ErrRange) :: ("strconv.ErrSyntax", Rows.laid_strconv_ErrSyntax) :: laidAll.drop 6) w := laidMet.tail (x := (laidAll.drop 3).headD default) hE3
  obtain ⟨a0, s0, hv0, -, -, -⟩ := laid_sentinel (g := 3) hE4 (by kernel_rfl) (by kernel_rfl) Tryz.underlying52 rowErr Tryz.underlying107 Tryz.underlying109 rfl rfl Tryz.underlying9 (by kernel_rfl) (by kernel_rfl)
  obtain ⟨a1, s1, hv1, -, -, -⟩ := laid_sentinel (g := 2) hE4.tail (by kernel_rfl) (by kernel_rfl) Tryz.underlying52 rowErr Tryz.underlying107 Tryz.underlying109 rfl rfl Tryz.underlying9 (by kernel_rfl) (by kernel_rfl)
  refine ⟨?_, utf8Tabs_of_reads { Tryz.lays163 with } ⟨by kernel_rfl, by kernel_rfl, by kernel_rfl, by kernel_rfl, by kernel_rfl, by kernel_rfl, by kernel_rfl⟩ r8 r3, whiteTab_of_reads { Tryz.lays163 with } ⟨by kernel_rfl, by kernel_rfl, by kernel_rfl, by kernel_rfl, by kernel_rfl, by kernel_rfl, by kernel_rfl, by kernel_rfl⟩ r6, ⟨_, _, hv1⟩, ⟨_, _, hv0⟩⟩
  obtain ⟨g, t, cs, fuel, p, hg, hty, hvar, hd⟩ := r7
  have hty2 : (Tryz.prog.globals[g]?).map (·.type) = some 127 := by
    obtain rfl := Option.some.inj ((show Tryz.prog.globalNamed "strings.asciiSpace" = some 0 by kernel_rfl).symm.trans hg)
    kernel_rfl
  obtain rfl := Option.some.inj (hty2.symm.trans hty)
  unfold TabIs
  rw [hvar, ← cells_of_tab Tryz.underlying127 Tryz.underlying5 (by kernel_rfl) (by kernel_rfl) hd]

end Go.Proofs.YtcolffccbmpndaaGreatDoor
