/- The single steps and their ends, as the law builds them in memory. -/
import Derived.Test.YtaheafmdkbobcaaManyP
namespace Go.Proofs.Ytaheafmdkbobcaa
open Go.RowKit

theorem Try.info3 : (Try.prog.info? 3).map (fun i => (i.zero, i.size, i.bytes)) = some (some (.int .i64 0), 1, 8) := by kernel_rfl

/-- Indices in memory, as a value. -/
def MvAt (w : World) (zs : List Int) (v : Value) : Prop :=
  ∃ am cm, v = .slice am zs.length cm ∧ (am = none → cm = 0 ∧ zs.length = 0) ∧ ∀ ad, am = some ad → ∀ j, j < zs.length → ad.block < w.heap.size ∧ w.cell? (ad.add j) = some (.int .u64 (zs.getD j 0))

def sCells (p : Stp × Value) : List Value := [.int .i64 p.1.kind, .int .u64 p.1.idx, p.2]
def eCells (n : Nat) : Value := .int .i64 n

structure ManyRow (w wr : World) (g c : Nat) (Ls : List (Stp × Value)) (ge ce : Nat) (es : List Nat) : Prop where
  t : Tch [] w wr
  srow : wr.ownsRow 0 31 3 (.slice (some ⟨g, 0, none⟩) Ls.length c) Ls.length (Ls.flatMap sCells)
  sn : w.heap.size ≤ g
  erow : wr.ownsRow 0 3 1 (.slice (some ⟨ge, 0, none⟩) es.length ce) es.length (es.map eCells)
  en : w.heap.size ≤ ge
  good : ∀ p ∈ Ls, MvAt w p.1.many p.2

theorem MvAt.one {w : World} {zs : List Int} {v : Value} (h : MvAt w zs v) : v.oneCell' = true := by
  obtain ⟨am, cm, rfl, -⟩ := h
  rfl

theorem MvAt.nil (w : World) : MvAt w [] (.slice none 0 0) := ⟨none, 0, rfl, fun _ => ⟨rfl, rfl⟩, fun ad hd => by simp at hd⟩

theorem ManyRow.start (w : World) : ManyRow w ((w.alloc (.cells #[] 31)).alloc (.cells #[] 3)) w.heap.size 0 [] (w.heap.size + 1) 0 [] := by
  refine ⟨((Tch.refl _ _).alloc _).alloc _, (row_new (w := w) 31 3).alloc _, Nat.le_refl _, ?_, Nat.le_succ _, by simp⟩
  have h := row_new (w := w.alloc (.cells #[] 31)) 3 1
  have e : (w.alloc (.cells #[] 31)).heap.size = w.heap.size + 1 := by simp
  rw [e] at h
  exact h

section
variable {w wr w' : World} {g c ge ce : Nat} {Ls : List (Stp × Value)} {es : List Nat}

theorem ManyRow.tch (h : ManyRow w wr g c Ls ge ce es) (t : Tch [] wr w') : ManyRow w w' g c Ls ge ce es :=
  ⟨h.t.trans t, t.own h.srow (by simp), h.sn, t.own h.erow (by simp), h.en, h.good⟩

theorem ManyRow.ne (h : ManyRow w wr g c Ls ge ce es) : g ≠ ge := by
  obtain ⟨c1, h1⟩ := ownsRow_block h.srow (g := g) rfl
  obtain ⟨c2, h2⟩ := ownsRow_block h.erow (g := ge) rfl
  exact cells_ne h1 h2 (by decide)

theorem ManyRow.steps (h : ManyRow w wr g c Ls ge ce es) : StepsAt wr (some ⟨g, 0, none⟩) (Ls.map Prod.fst) := by
  intro i hi
  rw [List.length_map] at hi
  have hp : Ls[i]? = some (Ls[i]) := List.getElem?_eq_getElem hi
  have hq : (Ls.map Prod.fst).getD i default = (Ls[i]).1 := by simp [List.getD, hp]
  generalize Ls[i] = p at *
  have hmp := h.good p (List.mem_of_getElem? hp)
  have ha : (⟨g, 0, none⟩ : Addr).add (i * 3) = ⟨g, i * 3, none⟩ := by unfold Addr.add; split <;> simp_all
  have hc : ∀ j, j < 3 → wr.cell? ⟨g, i * 3 + j, none⟩ = (sCells p)[j]? := fun j hj => by
    rw [h.srow.cellAt (i * 3 + j) (by omega)]
    exact flat_at sCells 3 (fun _ => rfl) Ls i j p hp hj
  refine ⟨⟨g, 0, none⟩, rfl, ?_⟩
  rw [ha, hq]
  obtain ⟨am, cm, e, m1, m2⟩ := hmp
  refine ⟨own_lt h.srow rfl, hc 0 (by omega), hc 1 (by omega), am, cm, ?_, m1, fun ad hd j hj => ?_⟩
  · have := hc 2 (by omega)
    simp only [sCells, List.getElem?_cons_succ, List.getElem?_cons_zero, e] at this
    exact this
  · obtain ⟨n1, n2⟩ := m2 ad hd j hj
    exact ⟨Nat.lt_of_lt_of_le n1 h.t.size, by rw [h.t.cell (by rw [add_block]; exact n1) (by simp)]; exact n2⟩

/-- A step is put behind the others. -/
theorem ManyRow.push (h : ManyRow w wr g c Ls ge ce es) (hl : Ls.length ≤ 5000) (kd ix : Int) (zs : List Int) (mv : Value) (hp : MvAt w zs mv) (ty : TypeId) (t : Nat) (ht : t = wr.heap.size) :
    ∃ v w', (Builtin.append_ #[22, 22] ty #[.slice (some ⟨g, 0, none⟩) Ls.length c, .slice (some ⟨t, 0, none⟩) 1 1]).run Try.prog (wr.alloc (.cells #[.int .i64 kd, .int .u64 ix, mv] 31)) = .ok v w' ∧
      ∃ g' c', v = .slice (some ⟨g', 0, none⟩) (Ls.length + 1) c' ∧ ManyRow w w' g' c' (Ls ++ [(⟨kd, ix, zs⟩, mv)]) ge ce es ∧ Tch [g] wr w' ∧ (g' = g ∨ wr.heap.size < g') := by
  subst ht
  obtain ⟨i0, hi, hz0, hz1, hz2⟩ := info_parts Try.info31
  have T0 : Tch [] wr (wr.alloc (.cells #[.int .i64 kd, .int .u64 ix, mv] 31)) := (Tch.refl _ _).alloc _
  obtain ⟨v', w', hrun, ho, hg, -, hloc⟩ := run_append_own_at (P := Try.prog) (wr.alloc (.cells #[.int .i64 kd, .int .u64 ix, mv] 31)) 0 22 ty 31 i0 (.agg #[.int .i64 0, .int .u64 0, .slice none 0 0]) 3 40 Try.underlying22 hi hz0 hz1 hz2 rfl (by decide) _ Ls.length _ (h.srow.alloc _) ⟨wr.heap.size, 0, none⟩ 1 1 (sCells (⟨kd, ix, zs⟩, mv)) rfl (fun j u hu => by
    have hb := heap_alloc_new wr (.cells #[.int .i64 kd, .int .u64 ix, mv] 31)
    have : (⟨wr.heap.size, 0, none⟩ : Addr).add j = ⟨wr.heap.size, j, none⟩ := by unfold Addr.add; split <;> simp_all
    rw [this, cell_of_row _ _ j _ 31 (0, 0) hb]
    simpa [sCells] using hu) (by intro u hu; simp only [sCells, List.mem_cons, List.not_mem_nil, or_false] at hu; rcases hu with rfl | rfl | rfl <;> first | rfl | exact hp.one) (by unfold maxLen; omega) (by omega) (Nat.zero_le _)
  obtain ⟨g', c', rfl, -⟩ := ownsRow_value ho (by omega)
  have hgb : (Value.slice (some ⟨g, 0, none⟩) Ls.length c).ownBlock = some g := rfl
  have T1 : Tch [g] wr w' := (T0.mono (by simp)).grown hg (fun k hk _ => by rw [hgb] at hk; simp at hk; simp [hk])
  have e3 : (Ls ++ [((⟨kd, ix, zs⟩ : Stp), mv)]).length = Ls.length + 1 := by simp
  have hz : (wr.alloc (.cells #[.int .i64 kd, .int .u64 ix, mv] 31)).heap.size = wr.heap.size + 1 := by simp
  have hgn : g' = g ∨ wr.heap.size < g' := by
    rcases hloc with e | e
    · exact .inl (by simpa [Value.ownBlock] using e)
    · right
      have e : g' = (wr.alloc (.cells #[.int .i64 kd, .int .u64 ix, mv] 31)).heap.size := by simpa [Value.ownBlock] using e
      omega
  refine ⟨_, w', hrun, g', c', rfl, ⟨h.t.then T1 (fun i hi hm => ?_), ?_, ?_, T1.own h.erow (fun k hk hm => ?_), h.en, ?_⟩, T1, hgn⟩
  · have := h.sn
    have := List.mem_singleton.1 hm
    omega
  · rw [e3, List.flatMap_append, List.flatMap_cons, List.flatMap_nil, List.append_nil]; exact ho
  · have h1 := h.t.size
    have h2 := h.sn
    rcases hgn with e | e <;> omega
  · have hk : ge = k := by simpa [Value.ownBlock] using hk
    exact h.ne (by rw [hk]; exact (List.mem_singleton.1 hm).symm)
  · intro p hp'
    rcases List.mem_append.1 hp' with hp' | hp'
    · exact h.good p hp'
    · rw [List.mem_singleton.1 hp']; exact hp

/-- An end is put behind the others. -/
theorem ManyRow.pushE (h : ManyRow w wr g c Ls ge ce es) (hl : es.length ≤ 5000) (n : Nat) (ty : TypeId) (t : Nat) (ht : t = wr.heap.size) :
    ∃ v w', (Builtin.append_ #[27, 27] ty #[.slice (some ⟨ge, 0, none⟩) es.length ce, .slice (some ⟨t, 0, none⟩) 1 1]).run Try.prog (wr.alloc (.cells #[.int .i64 n] 3)) = .ok v w' ∧
      ∃ g' c', v = .slice (some ⟨g', 0, none⟩) (es.length + 1) c' ∧ ManyRow w w' g c Ls g' c' (es ++ [n]) := by
  subst ht
  obtain ⟨i0, hi, hz0, hz1, hz2⟩ := info_parts Try.info3
  have T0 : Tch [] wr (wr.alloc (.cells #[.int .i64 n] 3)) := (Tch.refl _ _).alloc _
  obtain ⟨v', w', hrun, ho, hg, -, hloc⟩ := run_append_own_at (P := Try.prog) (wr.alloc (.cells #[.int .i64 n] 3)) 0 27 ty 3 i0 (.int .i64 0) 1 8 Try.underlying27 hi hz0 hz1 hz2 rfl (by decide) _ es.length _ (h.erow.alloc _) ⟨wr.heap.size, 0, none⟩ 1 1 [.int .i64 n] rfl (cell_one_new _ _ _) (by simp [Value.oneCell']) (by unfold maxLen; omega) (by omega) (Nat.zero_le _)
  obtain ⟨g', c', rfl, -⟩ := ownsRow_value ho (by omega)
  have hgb : (Value.slice (some ⟨ge, 0, none⟩) es.length ce).ownBlock = some ge := rfl
  have T1 : Tch [ge] wr w' := (T0.mono (by simp)).grown hg (fun k hk _ => by rw [hgb] at hk; simp at hk; simp [hk])
  have e3 : (es ++ [n]).length = es.length + 1 := by simp
  have hz : (wr.alloc (.cells #[.int .i64 n] 3)).heap.size = wr.heap.size + 1 := by simp
  refine ⟨_, w', hrun, g', c', rfl, ⟨h.t.then T1 (fun i hi hm => ?_), T1.own h.srow (fun k hk hm => ?_), h.sn, ?_, ?_, h.good⟩⟩
  · have := h.en
    have := List.mem_singleton.1 hm
    omega
  · have hk : g = k := by simpa [Value.ownBlock] using hk
    exact h.ne (by rw [hk]; exact List.mem_singleton.1 hm)
  · rw [e3, List.map_append]; exact ho
  · have h1 := h.t.size
    have h2 := h.en
    rcases hloc with e | e
    · have e : g' = ge := by simpa [Value.ownBlock] using e
      omega
    · have e : g' = (wr.alloc (.cells #[.int .i64 n] 3)).heap.size := by simpa [Value.ownBlock] using e
      omega

theorem ManyRow.endAt (h : ManyRow w wr g c Ls ge ce es) {i n : Nat} (hi : es[i]? = some n) : wr.cell? ⟨ge, i, none⟩ = some (.int .i64 n) := by
  rw [h.erow.cellAt i (by have := (List.getElem?_eq_some_iff.1 hi).1; omega), List.getElem?_map, hi]; rfl
end

end Go.Proofs.Ytaheafmdkbobcaa
