/- spec's begin as a step of the state. -/
import Derived.Test.YtaheafmdkbobcaaSpecA
namespace Go.Proofs.Ytaheafmdkbobcaa
open Go.RowKit

theorem Try.info69 : (Try.prog.info? 69).map (fun i => (i.zero, i.size, i.bytes)) = some (some (.agg #[.int .u64 0, .int .i64 0, .int .i64 0]), 3, 24) := by kernel_rfl

def plOf (all : List Cn) : List (Int × Int) := all.map fun p => (p.1, p.2.1 - p.2.2)

/-- spec's water mark holds a state. -/
structure SpD (w : World) (tb : Nat) (va vw : Value) (all : List Cn) (N : Nat) (q : MSt × List Int) : Prop where
  td : TdAt w tb va vw all q.1.til q.1.last q.2
  pl : q.1.pl = plOf all
  cn : ∀ p ∈ all, 0 ≤ p.2.2 ∧ p.2.2 ≤ p.2.1 ∧ p.2.1 ≤ N
  nd : (all.map Prod.fst).Nodup
  len : all.length ≤ N
  wlen : q.2.length ≤ N

def SpAt (w : World) (tb : Nat) (fp : List Nat) (N : Nat) (q : MSt × List Int) : Prop := ∃ va vw all, SpD w tb va vw all N q ∧ ∀ k ∈ tfoot tb va vw, k ∈ fp

def LeavesT (w : World) (tb : Nat) (fp : List Nat) (N : Nat) (q : MSt × List Int) (w' : World) : Prop := ∃ fp', SpAt w' tb fp' N q ∧ (∀ k ∈ fp', k ∈ fp ∨ w.heap.size ≤ k) ∧ Tch fp w w'

theorem SpD.tch {w w' : World} {tb : Nat} {va vw : Value} {all : List Cn} {N : Nat} {q : MSt × List Int} {S : List Nat} (h : SpD w tb va vw all N q) (t : Tch S w w') (hd : ∀ k ∈ tfoot tb va vw, k ∉ S) : SpD w' tb va vw all N q :=
  ⟨h.td.tch t hd, h.pl, h.cn, h.nd, h.len, h.wlen⟩

theorem plOf_keys (all : List Cn) : (plOf all).map Prod.fst = all.map Prod.fst := by simp [plOf, List.map_map, Function.comp_def]

theorem cnt_plOf_none {all : List Cn} {x : Int} (h : ∀ p ∈ all, p.1 ≠ x) : cnt? (plOf all) x = none := by
  rw [cnt_none]
  intro p hp
  obtain ⟨q, hq, rfl⟩ := List.mem_map.1 hp
  exact h q hq

theorem cnt_plOf_some {all : List Cn} {x : Int} (hn : (all.map Prod.fst).Nodup) {p : Cn} (hp : p ∈ all) (hx : p.1 = x) : cnt? (plOf all) x = some (p.2.1 - p.2.2) := by
  rw [cnt_mem (by rw [plOf_keys]; exact hn)]
  exact List.mem_map.2 ⟨p, hp, by rw [hx]⟩

theorem set_as_map {all : List Cn} (hn : (all.map Prod.fst).Nodup) {i : Nat} {p r : Cn} (hp : all[i]? = some p) : all.set i r = all.map (fun s => if s.1 = p.1 then r else s) := by
  induction all generalizing i with
  | nil => simp at hp
  | cons a l ih =>
    rw [List.map_cons, List.nodup_cons] at hn
    cases i with
    | zero =>
      have hp : a = p := by simpa using hp
      subst hp
      rw [List.set_cons_zero, List.map_cons, if_pos rfl]
      congr 1
      symm
      conv => rhs; rw [← List.map_id l]
      apply List.map_congr_left
      intro s hs
      have : s.1 ≠ a.1 := fun e => hn.1 (e ▸ List.mem_map.2 ⟨s, hs, rfl⟩)
      rw [if_neg this]; rfl
    | succ i =>
      have hp : l[i]? = some p := by simpa using hp
      have hm := List.mem_of_getElem? hp
      have hne : a.1 ≠ p.1 := fun e => hn.1 (e ▸ List.mem_map.2 ⟨p, hm, rfl⟩)
      rw [List.set_cons_succ, List.map_cons, if_neg hne, ih hn.2 hp]

theorem plOf_set {all : List Cn} (hn : (all.map Prod.fst).Nodup) {i : Nat} {p r : Cn} (hp : all[i]? = some p) (hr : r.1 = p.1) : plOf (all.set i r) = putC (plOf all) p.1 (r.2.1 - r.2.2) := by
  unfold putC
  rw [cnt_plOf_some hn (List.mem_of_getElem? hp) rfl, Option.isSome_some, if_pos rfl, set_as_map hn hp]
  unfold plOf
  rw [List.map_map, List.map_map]
  apply List.map_congr_left
  intro s _
  simp only [Function.comp_apply]
  split <;> simp_all

theorem set_keys {all : List Cn} {i : Nat} {p r : Cn} (hp : all[i]? = some p) (hr : r.1 = p.1) : (all.set i r).map Prod.fst = all.map Prod.fst := by
  rw [List.map_set]
  apply List.ext_getElem?
  intro j
  by_cases h : i = j
  · subst h
    have hi : i < all.length := (List.getElem?_eq_some_iff.1 hp).1
    rw [List.getElem?_set_self (by simpa using hi), List.getElem?_map, hp]
    simp [hr]
  · rw [List.getElem?_set_ne h]

/-- append onto what has begun. -/
theorem cn_app (W : World) (va : Value) (n x : Nat) (xi : Int) (xs : List Value) (ty : TypeId) (hx : x = W.heap.size) (hrow : W.ownsRow 0 69 3 va n xs) (hn : n ≤ 100000) :
    ∃ v w', (Builtin.append_ #[42, 42] ty #[va, .slice (some ⟨x, 0, none⟩) 1 1]).run Try.prog (W.alloc (.cells #[.int .u64 xi, .int .i64 0, .int .i64 0] 69)) = .ok v w' ∧
      ∃ g' c', v = .slice (some ⟨g', 0, none⟩) (n + 1) c' ∧ w'.ownsRow 0 69 3 (.slice (some ⟨g', 0, none⟩) (n + 1) c') (n + 1) (xs ++ cCells (xi, 0, 0)) ∧ (W.alloc (.cells #[.int .u64 xi, .int .i64 0, .int .i64 0] 69)).grownBy w' va.ownBlock ∧ (va.ownBlock = some g' ∨ W.heap.size ≤ g') := by
  subst hx
  obtain ⟨i0, hi, hz0, hz1, hz2⟩ := info_parts Try.info69
  obtain ⟨v', w', hrun, ho, hg, -, hloc⟩ := run_append_own_at (P := Try.prog) (W.alloc (.cells #[.int .u64 xi, .int .i64 0, .int .i64 0] 69)) 0 42 ty 69 i0 (.agg #[.int .u64 0, .int .i64 0, .int .i64 0]) 3 24 Try.underlying42 hi hz0 hz1 hz2 rfl (by decide) va n xs (hrow.alloc _) ⟨W.heap.size, 0, none⟩ 1 1 (cCells (xi, 0, 0)) rfl (fun j u hu => by
    have hb := heap_alloc_new W (.cells #[.int .u64 xi, .int .i64 0, .int .i64 0] 69)
    have : (⟨W.heap.size, 0, none⟩ : Addr).add j = ⟨W.heap.size, j, none⟩ := by unfold Addr.add; split <;> simp_all
    rw [this, cell_of_row _ _ j _ 69 (0, 0) hb]
    simpa [cCells] using hu) (by intro u hu; simp only [cCells, List.mem_cons, List.not_mem_nil, or_false] at hu; rcases hu with rfl | rfl | rfl <;> rfl) (by unfold maxLen; omega) (by omega) (Nat.zero_le _)
  obtain ⟨g', c', rfl, -⟩ := ownsRow_value ho (by omega)
  refine ⟨_, w', hrun, g', c', rfl, ho, hg, ?_⟩
  rcases hloc with e | e
  · left; rw [← e]; rfl
  · right
    have e : g' = (W.alloc (.cells #[.int .u64 xi, .int .i64 0, .int .i64 0] 69)).heap.size := by simpa [Value.ownBlock] using e
    have h3 : (W.alloc (.cells #[.int .u64 xi, .int .i64 0, .int .i64 0] 69)).heap.size = W.heap.size + 1 := by simp
    omega

/-- An index that has not begun yet. -/
theorem begin_new {w w1 w3 : World} {tb : Nat} {fp : List Nat} {va vw : Value} {all : List Cn} {N : Nat} {q : MSt × List Int} {x : Int} {g' c' : Nat} (h : SpD w tb va vw all N q) (hfp : ∀ k ∈ tfoot tb va vw, k ∈ fp) (ht : Tch [] w w1) (hx : ∀ p ∈ all, p.1 ≠ x)
    (ho : w3.ownsRow 0 69 3 (.slice (some ⟨g', 0, none⟩) (all.length + 1) c') (all.length + 1) (all.flatMap cCells ++ cCells (x, 0, 0))) (hg : (w1.alloc (.cells #[.int .u64 x, .int .i64 0, .int .i64 0] 69)).grownBy w3 va.ownBlock) (hloc : va.ownBlock = some g' ∨ w1.heap.size ≤ g') :
    w3.cell? ⟨tb, 0, none⟩ = some va ∧ w3.frozen? ⟨tb, 0, none⟩ = false ∧ w3.frozen? ⟨tb, 2, none⟩ = false ∧ (∃ u, w3.cell? ⟨tb, 2, none⟩ = some u) ∧ g' ≠ tb ∧ w3.cell? ⟨g', all.length * 3 + 1, none⟩ = some (.int .i64 0) ∧ w3.frozen? ⟨g', all.length * 3 + 1, none⟩ = false ∧
      LeavesT w tb fp (N + 1) (next1 { q.1 with last := x } x false, q.2) (((w3.setCell ⟨tb, 0, none⟩ (.slice (some ⟨g', 0, none⟩) (all.length + 1) c')).setCell ⟨g', all.length * 3 + 1, none⟩ (.int .i64 1)).setCell ⟨tb, 2, none⟩ (.int .u64 x)) := by
  have hobl : ∀ k ∈ va.ownBlock.toList, va.ownBlock = some k := fun k hk => by cases hv : va.ownBlock <;> simp_all
  have T3 : Tch va.ownBlock.toList w1 w3 := (((Tch.refl [] w1).alloc _).mono (by simp)).grown hg (fun k hk _ => by rw [hk]; simp)
  have h1 := h.td.tch ht (by simp)
  have str3 := T3.obj h1.str (fun hm => h1.ne_a (hobl _ hm) rfl)
  have wrow3 := T3.own h1.wrow (fun k hk hm => h1.ne_aw (hobl _ hm) hk rfl)
  obtain ⟨cur, hcur⟩ := ownsRow_block ho (g := g') rfl
  have hne : g' ≠ tb := cells_ne hcur str3 (by decide)
  have hs4 := heap_setCell_same w3 tb 0 _ 44 (.slice (some ⟨g', 0, none⟩) (all.length + 1) c') str3
  have T4 : Tch [tb] w3 (w3.setCell ⟨tb, 0, none⟩ (.slice (some ⟨g', 0, none⟩) (all.length + 1) c')) := (Tch.refl _ _).setCell (p := ⟨tb, 0, none⟩) (fun _ => by simp) _
  have e4 : all.length + 1 = (all ++ [(x, (0 : Int), (0 : Int))]).length := by simp
  have td4 : TdAt (w3.setCell ⟨tb, 0, none⟩ (.slice (some ⟨g', 0, none⟩) (all.length + 1) c')) tb (.slice (some ⟨g', 0, none⟩) (all ++ [(x, (0 : Int), (0 : Int))]).length c') vw (all ++ [(x, 0, 0)]) q.1.til q.1.last q.2 := by
    rw [← e4]
    refine ⟨by simpa using hs4, ?_, T4.own wrow3 (fun k hk hm => ?_)⟩
    · have := T4.own ho (fun k hk hm => by
        have hk : g' = k := by simpa [Value.ownBlock] using hk
        exact hne (hk.trans (List.mem_singleton.1 hm)))
      simpa [List.flatMap_append] using this
    · exact h1.ne_w hk (List.mem_singleton.1 hm)
  have hp : (all ++ [(x, (0 : Int), (0 : Int))])[all.length]? = some (x, 0, 0) := by simp
  obtain ⟨td5, T5⟩ := td4.put hp (j := 1) (by omega) (.int .i64 1) (q := (x, 1, 0)) rfl
  have es : (all ++ [(x, (0 : Int), (0 : Int))]).set all.length (x, 1, 0) = all ++ [(x, 1, 0)] := by
    rw [List.set_append_right _ _ (Nat.le_refl _)]; simp
  rw [es] at td5
  obtain ⟨td6, T6⟩ := td5.set2 x
  have c0 : w3.cell? ⟨g', all.length * 3 + 1, none⟩ = some (.int .i64 0) := by
    rw [ho.cellAt _ (by omega)]
    have := flat_at cCells 3 (fun _ => rfl) (all ++ [(x, (0 : Int), (0 : Int))]) all.length 1 _ hp (by omega)
    simpa [List.flatMap_append, cCells] using this
  refine ⟨by rw [cell_of_row w3 _ _ _ 44 (0, 0) str3]; rfl, frozen_of_row w3 _ 0 _ 44 str3, frozen_of_row w3 _ 2 _ 44 str3, ⟨_, by rw [cell_of_row w3 _ _ _ 44 (0, 0) str3]; rfl⟩, hne, c0, ho.frozenAt _,
    tfoot tb (.slice (some ⟨g', 0, none⟩) (all ++ [(x, (1 : Int), (0 : Int))]).length c') vw, ⟨_, vw, all ++ [(x, 1, 0)], ⟨td6, ?_, ?_, ?_, ?_, ?_⟩, fun k hk => hk⟩, ?_, ?_⟩
  · simp only [next1, Bool.false_eq_true, if_false]
    rw [h.pl]
    unfold putC
    rw [cnt_plOf_none hx]
    simp [plOf]
  · intro p hp
    rcases List.mem_append.1 hp with hp | hp
    · have := h.cn p hp; omega
    · rw [List.mem_singleton.1 hp]; simp; omega
  · rw [List.map_append, List.nodup_append]
    refine ⟨h.nd, by simp, ?_⟩
    intro a ha b hb
    obtain ⟨p, hp, rfl⟩ := List.mem_map.1 ha
    have : b = x := by simpa using hb
    rw [this]; exact hx p hp
  · rw [List.length_append]; have := h.len; simp; omega
  · have := h.wlen; show q.2.length ≤ _; omega
  · have hsz := ht.size
    intro k hk
    rcases mem_tfoot.1 hk with rfl | hk | hk
    · exact .inl (hfp _ (mem_tfoot.2 (.inl rfl)))
    · have hk : g' = k := by simpa [Value.ownBlock] using hk
      subst hk
      rcases hloc with e | e
      · exact .inl (hfp _ (mem_tfoot.2 (.inr (.inl e))))
      · right; omega
    · exact .inl (hfp _ (mem_tfoot.2 (.inr (.inr hk))))
  · have htb := hfp _ (mem_tfoot.2 (.inl rfl))
    have hg1 : ∀ i, i < w.heap.size → i ∈ [g'] → i ∈ fp := by
      intro i hi hm
      have hm := List.mem_singleton.1 hm
      have hsz := ht.size
      rcases hloc with e | e
      · exact hm ▸ hfp _ (mem_tfoot.2 (.inr (.inl e)))
      · omega
    refine ((((ht.mono (by simp)).then T3 (fun i _ hm => hfp _ (mem_tfoot.2 (.inr (.inl (hobl i hm)))))).then T4 (fun i _ hm => by rw [List.mem_singleton.1 hm]; exact htb)).then T5 hg1).then T6 (fun i _ hm => by rw [List.mem_singleton.1 hm]; exact htb)


end Go.Proofs.Ytaheafmdkbobcaa
