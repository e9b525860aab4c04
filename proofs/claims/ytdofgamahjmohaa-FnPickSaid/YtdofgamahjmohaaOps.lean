/- Operations on maps for the walk, each by an equation on its run. -/
import Derived.Test.YtdofgamahjmohaaRMapB
namespace Go.Proofs.Ytdofgamahjmohaa
open Go.RowKit

section
variable {P : Program} {w : World} {ops : Array Oper} {rest : List Oper} {o : Oper} {a : Act} {Q : Exit → Act → World → Prop}

theorem wpList_mapUpdate_run (hg : o.guard = none) (m x v : Operand) (t : TypeId) (hop : o.op = Op.mapUpdate t m x v) (vm vx vv : Value) (hm : a.eval m = vm) (hx : a.eval x = vx) (hv : a.eval v = vv) (R : World → Prop)
    (hrun : ∃ w', (Instr.mapUpdate t vm vx vv).run P w = .ok () w' ∧ R w') (hK : ∀ w', R w' → wpList P ops Q rest (a.put o.dst undef) w') : wpList P ops Q (o :: rest) a w := by
  obtain ⟨w', hr, hR⟩ := hrun
  refine wpList_plain hg fun K' hK' => ?_
  unfold Oper.wp
  simp [execOp, hop, hm, hx, hv, hr, Result.andThen]
  exact hK' _ _ (hK w' hR)

theorem wpList_delete_run (hg : o.guard = none) (m x : Operand) (t k : TypeId) (hop : o.op = Op.call { callee := .builtin .delete, args := #[m, x], argTypes := #[t, k] }) (vm vx : Value) (hm : a.eval m = vm) (hx : a.eval x = vx) (R : World → Prop)
    (hrun : ∃ w', (Builtin.delete_ #[t, k] o.type #[vm, vx]).run P w = .ok (.tuple #[]) w' ∧ R w') (hK : ∀ w', R w' → wpList P ops Q rest (a.put o.dst (.tuple #[])) w') : wpList P ops Q (o :: rest) a w := by
  obtain ⟨w', hr, hR⟩ := hrun
  refine wpList_plain hg fun K' hK' => ?_
  unfold Oper.wp execOp
  simp only [hop, resolve, invoke, builtin, Sem.run_bind, Sem.run_pure, Result.andThen_ok, List.map_toArray, List.map_cons, List.map_nil, hm, hx, hr]
  exact hK' _ _ (hK w' hR)

theorem wpList_range_run (hg : o.guard = none) (m : Operand) (t : TypeId) (hop : o.op = Op.range t m) (vm : Value) (hm : a.eval m = vm) (R : Value → World → Prop)
    (hrun : ∃ v w', (Instr.range t vm).run P w = .ok v w' ∧ R v w') (hK : ∀ v w', R v w' → wpList P ops Q rest (a.put o.dst v) w') : wpList P ops Q (o :: rest) a w := by
  obtain ⟨v, w', hr, hR⟩ := hrun
  refine wpList_plain hg fun K' hK' => ?_
  unfold Oper.wp
  simp [execOp, hop, hm, hr, Result.andThen]
  exact hK' _ _ (hK v w' hR)

theorem wpList_next_run (hg : o.guard = none) (it : Operand) (hop : o.op = Op.next it false) (vi : Value) (hit : a.eval it = vi) (R : Value → World → Prop)
    (hrun : ∃ v w', (Instr.next vi false o.type).run P w = .ok v w' ∧ R v w') (hK : ∀ v w', R v w' → wpList P ops Q rest (a.put o.dst v) w') : wpList P ops Q (o :: rest) a w := by
  obtain ⟨v, w', hr, hR⟩ := hrun
  refine wpList_plain hg fun K' hK' => ?_
  unfold Oper.wp
  simp [execOp, hop, hit, hr, Result.andThen]
  exact hK' _ _ (hK v w' hR)

end

end Go.Proofs.Ytdofgamahjmohaa
