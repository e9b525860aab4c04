/- A plan in memory; rows of priorities told. -/
import Derived.Test.YtdofgamahjmohaaSp
import Derived.Test.YtdofgamahjmohaaFkP
import Derived.WalkLawsBesides
import Derived.BigQuiet
import Derived.Deep.RegionHeld3
import Derived.BigRegion
namespace Go.Proofs.Ytdofgamahjmohaa
open Go.RowKit Go.Deep
set_option maxRecDepth 100000

def sC (x : PrD) : List Value := [.int .i64 x.lvl, .float .f64 x.sc, .float .f64 x.adj]
theorem Try.infoPri : (Try.prog.info? 84).map (fun i => (i.zero, i.size, i.bytes)) = some (some (.agg #[.int .i64 0, .float .f64 0, .float .f64 0]), 3, 24) := by kernel_rfl

/-- A plan in memory. -/
structure PlanAt (w : World) (gp : Nat) (la : Option Addr) (n lc : Nat) (o : Op) (b : Nat) (fv : Value) (ra : Option Addr) (rn rc : Nat) (sd : Bool) : Prop where
  out : w.heap[gp]? = some (.cells #[.slice la n lc, .int .i64 o.lv, .int .i64 o.lt, .int .i64 o.tt, .int .i64 o.zt, .int .i64 o.bl, .int .i64 o.bt, .int .i64 o.mt, .int .u64 o.di, .int .i64 b, fv, .slice ra rn rc, .bool sd] 74 (0, 0))
theorem PlanAt.cell {w : World} {gp : Nat} {la : Option Addr} {n lc : Nat} {o : Op} {b : Nat} {fv : Value} {ra : Option Addr} {rn rc : Nat} {sd : Bool} (h : PlanAt w gp la n lc o b fv ra rn rc sd) (i : Nat) (v : Value) (hv : (#[.slice la n lc, .int .i64 o.lv, .int .i64 o.lt, .int .i64 o.tt, .int .i64 o.zt, .int .i64 o.bl, .int .i64 o.bt, .int .i64 o.mt, .int .u64 o.di, .int .i64 b, fv, .slice ra rn rc, .bool sd] : Array Value)[i]? = some v) : w.cell? ⟨gp, i, none⟩ = some v := by
  rw [cell_of_row w gp i _ _ _ h.out]; exact hv
theorem PlanAt.tch {w w' : World} {gp : Nat} {la : Option Addr} {n lc : Nat} {o : Op} {b : Nat} {fv : Value} {ra : Option Addr} {rn rc : Nat} {sd : Bool} (h : PlanAt w gp la n lc o b fv ra rn rc sd) (t : Tch [] w w') : PlanAt w' gp la n lc o b fv ra rn rc sd := ⟨t.obj h.out (by simp)⟩
/-- The runs of a plan in memory, as far as Pick looks at them. -/
def RunAt1 (w : World) (ad : Addr) (r : Option (Nat × Int × Nat)) : Prop :=
  match r with
  | none => w.cell? ad = some (.pointer none)
  | some (l, s, g) => w.cell? ad = some (ptr g) ∧ w.cell? ⟨g, 0, none⟩ = some (.int .i64 l) ∧ w.cell? ⟨g, 19, none⟩ = some (.int .i64 s)
def RunAt (w : World) (ra : Option Addr) (rs : List (Option (Nat × Int × Nat))) : Prop := ∀ j (h : j < rs.length), ∃ ad, ra = some ad ∧ RunAt1 w (ad.add j) rs[j]
theorem RunAt.tch {w w' : World} {ra : Option Addr} {rs : List (Option (Nat × Int × Nat))} (h : RunAt w ra rs) (t : Tch [] w w') : RunAt w' ra rs := fun j hj => by
  obtain ⟨ad, e, h1⟩ := h j hj
  refine ⟨ad, e, ?_⟩
  unfold RunAt1 at h1 ⊢
  cases hr : rs[j] with
  | none => rw [hr] at h1; exact cell_tch h1 t
  | some q =>
    obtain ⟨l, s, g⟩ := q
    rw [hr] at h1
    exact ⟨cell_tch h1.1 t, cell_tch h1.2.1 t, cell_tch h1.2.2 t⟩

theorem add0 (g i : Nat) : (⟨g, 0, none⟩ : Addr).add i = ⟨g, i, none⟩ := by unfold Addr.add; split <;> simp_all
theorem prio0_succ (sc : Nat → Nat) (i : Nat) : ((List.range (i + 1)).map (fun j => PrD.mk j (sc j) (sc j))).flatMap sC = ((List.range i).map (fun j => PrD.mk j (sc j) (sc j))).flatMap sC ++ [.int .i64 i, .float .f64 (sc i), .float .f64 (sc i)] := by
  rw [List.range_succ, List.map_append, List.flatMap_append]
  simp [sC]

theorem pr_at {w wr : World} {a : Option Addr} {n c : Nat} {xs : List PrD} (h : Own w wr 84 3 (.slice a n c) n (xs.flatMap sC)) (hn : 0 < n := by omega) : ∃ g, a = some ⟨g, 0, none⟩ ∧ ∀ j, j < n → ∀ k, k < 3 → wr.cell? ⟨g, j * 3 + k, none⟩ = (sC (xs.getD j default))[k]? := by
  have hrow := h.row
  obtain ⟨g, cap, e, -, hg⟩ := ownsRow_value hrow hn
  simp only [Value.slice.injEq, true_and] at e
  obtain ⟨rfl, rfl⟩ := e
  have hl : xs.length = n := by
    have := hrow.1
    have e : ∀ l : List PrD, (l.flatMap sC).length = l.length * 3 := fun l => by
      induction l with
      | nil => rfl
      | cons x l ih => rw [List.flatMap_cons, List.length_append, ih, List.length_cons]; simp [sC]; omega
    rw [e] at this
    omega
  refine ⟨g, rfl, fun j hj k hk => ?_⟩
  rw [hrow.cellAt (j * 3 + k) (by omega)]
  exact flat_at sC 3 (fun _ => rfl) xs j k _ (by simp [List.getD, List.getElem?_eq_getElem (show j < xs.length by omega)]) hk
theorem prL_get (sc : Nat → Nat) (b i : Nat) {n j : Nat} (h : j < n) : (prL sc b i n).getD j default = ⟨j, sc j, adjAt sc b i j⟩ := by
  unfold prL
  simp [List.getD, h]

theorem flat_set (r : Nat) : ∀ (xs : List PrD) (j : Nat), j < xs.length → (xs.flatMap sC).set (j * 3 + 2) (.float .f64 r) = (xs.set j ⟨(xs.getD j default).lvl, (xs.getD j default).sc, r⟩).flatMap sC
  | [], _, h => by simp at h
  | x :: xs, 0, _ => by simp [sC]
  | x :: xs, j + 1, h => by
    have ih := flat_set r xs j (by simpa using h)
    have e : (j + 1) * 3 + 2 = (j * 3 + 2) + 3 := by omega
    rw [List.flatMap_cons, List.set_cons_succ, List.flatMap_cons, e]
    have e2 : (sC x ++ xs.flatMap sC).set (j * 3 + 2 + 3) (.float .f64 r) = sC x ++ (xs.flatMap sC).set (j * 3 + 2) (.float .f64 r) := by
      simp [sC]
    rw [e2, ih]
    simp [List.getD]
theorem prL_set {sc : Nat → Nat} {b i n r : Nat} (hb : 1 ≤ b) (hi : b ≤ i) (hn : i < n) (hr : adjOne sc (befo b i) i = r) : ((prL sc b i n).flatMap sC).set (befo b i * 3 + 2) (.float .f64 r) = (prL sc b (i + 1) n).flatMap sC := by
  have hbf : befo b i < n := by unfold befo; split <;> omega
  rw [flat_set r _ _ (by simpa [prL] using hbf), prL_get sc b i hbf]
  congr 1
  apply List.ext_getElem
  · simp [prL]
  · intro j h1 h2
    have hj : j < n := by simpa [prL] using h2
    rw [List.getElem_set]
    by_cases e : befo b i = j
    · rw [if_pos e]
      subst e
      simp [prL, adjAt_step sc hb hi, hr]
    · rw [if_neg e]
      have e' : ¬ j = befo b i := fun h => e h.symm
      simp [prL, adjAt_step sc hb hi, e']
theorem own_set {w1 w : World} {e : TypeId} {sz g n c k : Nat} {xs : List Value} (u : Value) (h : Own w1 w e sz (.slice (some ⟨g, 0, none⟩) n c) n xs) : Own w1 (w.setCell ⟨g, k, none⟩ u) e sz (.slice (some ⟨g, 0, none⟩) n c) n (xs.set k u) := by
  obtain ⟨hl, ⟨e1, -⟩ | ⟨g', cap, cur, e1, hb, hc, hn, hm, hcs, ht⟩⟩ := h.row
  · simp at e1
  · obtain ⟨rfl, rfl⟩ : g = g' ∧ c = cap := by simpa using e1
    have hz := heap_setCell_same w g k _ _ u hc
    refine ⟨tch_new h.t (S := [g]) ((Tch.refl _ _).setCell (p := ⟨g, k, none⟩) (fun _ => by simp) _) (fun q hq => by rw [List.mem_singleton.1 hq]; exact hb), by rw [List.length_set]; exact hl, .inr ⟨g, c, cur.setIfInBounds k u, rfl, hb, hz, hn, hm, by simpa using hcs, ?_⟩⟩
    rw [Array.toList_setIfInBounds, List.take_set, ht]
theorem own_froz {w1 w : World} {e : TypeId} {sz g n c k : Nat} {xs : List Value} (h : Own w1 w e sz (.slice (some ⟨g, 0, none⟩) n c) n xs) : w.frozen? ⟨g, k, none⟩ = false := by
  obtain ⟨cur, hc⟩ := ownsRow_block h.row (g := g) rfl
  exact frozen_of hc

/-- An append at a step of a region that draws its order, given its run. -/
theorem step_append_run {ops : Array Oper} {o : Oper} {a : Act} {w : World} {K : Act → World → Prop} {Q : Exit → Act → World → Prop} {E : Prop} (hgd : o.guard = none) (s x : Operand) (t : TypeId)
    (ho : o.op = .call { callee := .builtin .append, args := #[s, x], argTypes := #[t, t] }) (v xv : Value) (hs : a.eval s = v) (hx : a.eval x = xv)
    {R : Value → World → Prop} (hr : ∃ v' w', (Builtin.append_ #[t, t] o.type #[v, xv]).run Try.prog w = .ok v' w' ∧ R v' w') (h : ∀ v' w', R v' w' → K (a.put o.dst v') w') :
    if Region.wanted o (yielded ops a.tmps) = true then Oper.wp Try.prog o a w K Q else E := by
  have hw : Region.wanted o (yielded ops a.tmps) = true := by simp [Region.wanted, hgd]
  rw [if_pos hw]
  obtain ⟨v', w', hr, hR⟩ := hr
  unfold Oper.wp execOp
  simp only [ho, resolve, invoke, builtin, Sem.run_bind, Sem.run_pure, Result.andThen_ok, List.map_toArray, List.map_cons, List.map_nil, hs, hx, hr]
  exact h v' w' hR

theorem flatC_len : ∀ l : List PrD, (l.flatMap sC).length = l.length * 3
  | [] => rfl
  | x :: l => by rw [List.flatMap_cons, List.length_append, flatC_len l, List.length_cons]; simp [sC]; omega
theorem own_pre {w1 w : World} {e : TypeId} {sz g m c k : Nat} {xs : List Value} (h : Own w1 w e sz (.slice (some ⟨g, 0, none⟩) m c) m xs) (hk : k ≤ m) : Own w1 w e sz (.slice (some ⟨g, 0, none⟩) k c) k (xs.take (k * sz)) := by
  obtain ⟨hl, ⟨e1, -⟩ | ⟨g', cap, cur, e1, hb, hc, hn, hm, hcs, ht⟩⟩ := h.row
  · simp at e1
  · obtain ⟨rfl, rfl⟩ : g = g' ∧ c = cap := by simpa using e1
    have hle : k * sz ≤ m * sz := Nat.mul_le_mul_right _ hk
    refine ⟨h.t, by rw [List.length_take, hl, Nat.min_eq_left hle], .inr ⟨g, c, cur, rfl, hb, hc, by omega, hm, hcs, ?_⟩⟩
    rw [← ht, List.take_take, Nat.min_eq_left hle]

end Go.Proofs.Ytdofgamahjmohaa
