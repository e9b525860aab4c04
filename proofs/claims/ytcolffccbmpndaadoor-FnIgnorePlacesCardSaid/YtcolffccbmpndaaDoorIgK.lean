/- From the row's cell 'laid' to what the library's contracts ask. -/
import Derived.Test.YtcolffccbmpndaaDoorRows
import Derived.Test.YtcolffccbmpndaaDoorIgQ
import Derived.Lib.LaidU8
import Derived.Stop.LaidErr
import Derived.LaidLaws
namespace Go.Proofs.YtcolffccbmpndaaDoor
open Go.RowKit Go.Deep Go.Lib
set_option maxRecDepth 100000

/-- What the rows list. -/
abbrev laidAll : List (String × DataW Unit) := Rows.fnIgnoreBytesRow.laid

theorem rowErr (u : TypeId) (h : Tryd.prog.typeName? 3 u = some "*errors.errorString") : u = 50 :=
  typeName_ptr_named (nm := "errors.errorString") (by rw [show "*" ++ "errors.errorString" = "*errors.errorString" by decide]; kernel_rfl) (by kernel_rfl) (by decide) u (by rw [show "*" ++ "errors.errorString" = "*errors.errorString" by decide]; exact h)

theorem tabs_of_laid {w : World} (hL : laidMet Tryd.prog laidAll w) : Tabs w := by
  have r8 : VarReads Tryd.prog w "unicode/utf8.first" firstData := Lib.laidMet.reads hL (.tail _ (.tail _ (.tail _ (.tail _ (.tail _ (.tail _ (.tail _ (.tail _ (.head _)))))))))
  have r3 : VarReads Tryd.prog w "unicode/utf8.acceptRanges" acceptData := Lib.laidMet.reads hL (.tail _ (.tail _ (.tail _ (.head _))))
  have r6 : VarReads Tryd.prog w "unicode.White_Space" whiteData := Lib.laidMet.reads hL (.tail _ (.tail _ (.tail _ (.tail _ (.tail _ (.tail _ (.head _)))))))
  have r7 : VarReads Tryd.prog w "strings.asciiSpace" (tabData .u8 asciiSpaceTab) := Lib.laidMet.reads hL (.tail _ (.tail _ (.tail _ (.tail _ (.tail _ (.tail _ (.tail _ (.head _))))))))
  have hE1 : laidMet Tryd.prog (laidAll.drop 1) w := laidMet.tail (x := laidAll.headD default) hL
  have hE2 : laidMet Tryd.prog (laidAll.drop 2) w := laidMet.tail (x := (laidAll.drop 1).headD default) hE1
  have hE3 : laidMet Tryd.prog (laidAll.drop 3) w := laidMet.tail (x := (laidAll.drop 2).headD default) hE2
  have hE4 : laidMet Tryd.prog (("strconv.ErrRange", Rows.laid_strconv_ErrRange) :: ("strconv.ErrSyntax", Rows.laid_strconv_ErrSyntax) :: laidAll.drop 6) w := laidMet.tail (x := (laidAll.drop 3).headD default) hE3
  obtain ⟨a0, s0, hv0, -, -, -⟩ := laid_sentinel (g := 3) hE4 (by kernel_rfl) (by kernel_rfl) Tryd.underlying36 rowErr Tryd.underlying50 Tryd.underlying52 rfl rfl Tryd.underlying9 (by kernel_rfl) (by kernel_rfl)
  obtain ⟨a1, s1, hv1, -, -, -⟩ := laid_sentinel (g := 2) hE4.tail (by kernel_rfl) (by kernel_rfl) Tryd.underlying36 rowErr Tryd.underlying50 Tryd.underlying52 rfl rfl Tryd.underlying9 (by kernel_rfl) (by kernel_rfl)
  refine ⟨?_, utf8Tabs_of_reads { Tryd.lays163 with } ⟨by kernel_rfl, by kernel_rfl, by kernel_rfl, by kernel_rfl, by kernel_rfl, by kernel_rfl, by kernel_rfl⟩ r8 r3, whiteTab_of_reads { Tryd.lays163 with } ⟨by kernel_rfl, by kernel_rfl, by kernel_rfl, by kernel_rfl, by kernel_rfl, by kernel_rfl, by kernel_rfl, by kernel_rfl⟩ r6, ⟨_, _, hv1⟩, ⟨_, _, hv0⟩⟩
  obtain ⟨g, t, cs, fuel, p, hg, hty, hvar, hd⟩ := r7
  have hty2 : (Tryd.prog.globals[g]?).map (·.type) = some 49 := by
    obtain rfl := Option.some.inj ((show Tryd.prog.globalNamed "strings.asciiSpace" = some 0 by kernel_rfl).symm.trans hg)
    kernel_rfl
  obtain rfl := Option.some.inj (hty2.symm.trans hty)
  unfold TabIs
  rw [hvar, ← cells_of_tab Tryd.underlying49 Tryd.underlying5 (by kernel_rfl) (by kernel_rfl) hd]

end Go.Proofs.YtcolffccbmpndaaDoor
