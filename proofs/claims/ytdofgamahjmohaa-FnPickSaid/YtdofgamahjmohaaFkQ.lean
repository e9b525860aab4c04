/- Scores of levels: numbers. -/
import Derived.Test.YtdofgamahjmohaaSp
import Derived.Test.YtdofgamahjmohaaLwL
import Derived.Test.YtdofgamahjmohaaFkP
namespace Go.Proofs.Ytdofgamahjmohaa
open Go.RowKit
set_option maxRecDepth 100000

/-- The score of a level, with what runs taken off. -/
def scoreD (LL : List (List Tb)) (o : Op) (D : Nat → Int) (i : Nat) : Nat :=
  if i = 0 then quoW (fI ((LL.getD 0 []).length : Nat)) (fI o.zt) else quoW (fI (szs LL i - D i)) (fI (tgs LL o i))
theorem tgs_bound {LL : List (List Tb)} {o : Op} (hv : Valid LL o) {i : Nat} (hi : 1 ≤ i) (hn : i < LL.length) : 1 ≤ tgs LL o i ∧ tgs LL o i ≤ 1125899906842624 := by
  have h1 := hv.op.bl1
  have h2 := hv.op.bl2
  have hs := (szs_bound hv (j := LL.length - 1) (by omega)).1
  have hs2 := (szs_bound hv (j := LL.length - 1) (by omega)).2.1
  have hd : ∀ k, 0 ≤ dbF (szs LL (LL.length - 1)) o.lt k ∧ dbF (szs LL (LL.length - 1)) o.lt k ≤ 1125899906842624 := fun k => ⟨dbF_nonneg hs hv.op.lt1 k, Int.le_trans (dbF_le hs hv.op.lt1 k) hs2⟩
  unfold tgs tg
  rw [if_neg (by omega)]
  have := hd (LL.length - 1 - i)
  split <;> omega
theorem quo_some {a b : Int} (ha : a.natAbs < 9007199254740992) (hb : 1 ≤ b) (hb2 : b < 9007199254740992) : floatBits .quo .f64 (fI a) (fI b) = some (quoW (fI a) (fI b)) ∧ Num (quoW (fI a) (fI b)) := by
  obtain ⟨r, h1, h2⟩ := score_num a b ha hb hb2
  unfold quoW
  rw [h1]
  exact ⟨rfl, h2⟩
theorem score0_some {LL : List (List Tb)} {o : Op} (hv : Valid LL o) {i : Nat} (hn : i < LL.length) : floatBits .quo .f64 (fI ((LL.getD i []).length : Nat)) (fI o.zt) = some (quoW (fI ((LL.getD i []).length : Nat)) (fI o.zt)) ∧ Num (quoW (fI ((LL.getD i []).length : Nat)) (fI o.zt)) := by
  have hm : LL.getD i [] ∈ LL := by simp [List.getD, List.getElem?_eq_getElem hn]
  have h30 := hv.few _ hm
  exact quo_some (by omega) hv.op.zt1 (by have := hv.op.zt2; omega)
theorem scoreI_some {LL : List (List Tb)} {o : Op} (hv : Valid LL o) {i : Nat} (hi : 1 ≤ i) (hn : i < LL.length) {d : Int} (hd : 0 ≤ d ∧ d ≤ 1125899906842624) : floatBits .quo .f64 (fI (szs LL i - d)) (fI (tgs LL o i)) = some (quoW (fI (szs LL i - d)) (fI (tgs LL o i))) ∧ Num (quoW (fI (szs LL i - d)) (fI (tgs LL o i))) := by
  have h1 := szs_bound hv hn
  have h2 := tgs_bound hv hi hn
  exact quo_some (by omega) h2.1 (by omega)
theorem scoreD_num {LL : List (List Tb)} {o : Op} (hv : Valid LL o) {D : Nat → Int} (hD : ∀ i, i < LL.length → 0 ≤ D i ∧ D i ≤ 1125899906842624) : ∀ i, i < LL.length → Num (scoreD LL o D i) := by
  intro i hi
  unfold scoreD
  split
  · exact (score0_some hv (by have := hv.op.n2; omega)).2
  · exact (scoreI_some hv (by omega) hi (hD i hi)).2

end Go.Proofs.Ytdofgamahjmohaa
