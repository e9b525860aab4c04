/- What a water mark is in memory while process works on it. -/
import Derived.Test.YtaheafmdkbobcaaHpP
import Derived.Test.YtaheafmdkbobcaaNotify
namespace Go.Proofs.Ytaheafmdkbobcaa
open Go.RowKit

/-- The blocks: the struct, the two maps, and the boxes of the captured variables. -/
structure Lay where
  wb : Nat
  pb : Nat
  qb : Nat
  ib : Nat
  pbx : Nat
  wbx : Nat
  qbx : Nat

/-- The blocks of those that wait for k. -/
def blk (ws : List (Nat × Int)) (k : Int) : List Nat := (ws.filter (fun p => p.2 == k)).map Prod.fst

/-- The map of those that wait: an entry for each index for which something waits that is not done, with a slice of all that wait for it. -/
structure WtAt (w : World) (qb : Nat) (ws : List (Nat × Int)) (f : Int → Bool) (es : List (Int × Value)) : Prop where
  map : RMap .u64 w qb es
  row : ∀ p ∈ es, w.ownsRow 0 51 1 p.2 (blk ws p.1).length ((blk ws p.1).map ptr)
  apart : (es.map (fun p => p.2.ownBlock)).Nodup
  key : ∀ k, (k ∈ es.map Prod.fst) ↔ (f k = false ∧ ∃ b, (b, k) ∈ ws)

/-- The rows of the slices in the map. -/
def rows (es : List (Int × Value)) : List Nat := es.filterMap (fun p => p.2.ownBlock)

structure Core (w : World) (L : Lay) (x3 : Value) (til last : Int) (pl : List (Int × Int)) : Prop where
  str : w.heap[L.wb]? = some (.cells #[.int .u64 til, .int .u64 last, .string ⟨#[]⟩, x3, .map (some L.pb), .map (some L.qb)] 63 (0, 0))
  b1 : w.heap[L.pbx]? = some (.cells #[.map (some L.pb)] 59 (0, 0))
  b2 : w.heap[L.wbx]? = some (.cells #[ptr L.wb] 46 (0, 0))
  b3 : w.heap[L.qbx]? = some (.cells #[.map (some L.qb)] 60 (0, 0))
  pend : RMap .u64 w L.pb (pl.map fun p => (p.1, .int .i64 p.2))
  pq : L.pb ≠ L.qb

/-- All of it. -/
structure Inr (w : World) (L : Lay) (x3 v : Value) (til last : Int) (hs : List Int) (pl : List (Int × Int)) (ws : List (Nat × Int)) (f : Int → Bool) (es : List (Int × Value)) : Prop where
  core : Core w L x3 til last pl
  hp : HeapAt w L.ib v hs
  wt : WtAt w L.qb ws f es
  flag : ∀ p ∈ ws, FlagAt w p.1 (f p.2)

theorem mem_blk {ws : List (Nat × Int)} {k : Int} {b : Nat} : b ∈ blk ws k ↔ (b, k) ∈ ws := by
  simp [blk]

/-- Two blocks that hold different things are different. -/
theorem obj_ne {w : World} {a b : Nat} {o o' : Obj} (ha : w.heap[a]? = some o) (hb : w.heap[b]? = some o') (h : o ≠ o') : a ≠ b := fun e => by
  subst e; rw [ha] at hb; simp at hb; exact h hb
theorem cells_ne {w : World} {a b : Nat} {c c' : Array Value} {t t' : TypeId} {fr fr' : Nat × Nat} (ha : w.heap[a]? = some (.cells c t fr)) (hb : w.heap[b]? = some (.cells c' t' fr')) (h : t ≠ t') : a ≠ b :=
  obj_ne ha hb (by simp; intro _ e; exact absurd e h)
theorem RMap.ne_cells {q : IntKind} {w : World} {a b : Nat} {l : List (Int × Value)} {c : Array Value} {t : TypeId} {fr : Nat × Nat} (ha : RMap q w a l) (hb : w.heap[b]? = some (.cells c t fr)) : a ≠ b := by
  obtain ⟨es, clk, h1, _⟩ := ha
  exact obj_ne h1 hb (by simp)

theorem Core.tch {w w' : World} {L : Lay} {x3 : Value} {til last : Int} {pl : List (Int × Int)} {S : List Nat} (h : Core w L x3 til last pl) (t : Tch S w w')
    (h1 : L.wb ∉ S) (h2 : L.pb ∉ S) (h4 : L.pbx ∉ S) (h5 : L.wbx ∉ S) (h6 : L.qbx ∉ S) : Core w' L x3 til last pl :=
  ⟨t.obj h.str h1, t.obj h.b1 h4, t.obj h.b2 h5, t.obj h.b3 h6, h.pend.tch t h2, h.pq⟩
theorem WtAt.tch {w w' : World} {qb : Nat} {ws : List (Nat × Int)} {f : Int → Bool} {es : List (Int × Value)} {S : List Nat} (h : WtAt w qb ws f es) (t : Tch S w w') (h1 : qb ∉ S) (h2 : ∀ g ∈ rows es, g ∉ S) : WtAt w' qb ws f es :=
  ⟨h.map.tch t h1, fun p hp => t.own (h.row p hp) (fun g hg => h2 g (List.mem_filterMap.2 ⟨p, hp, hg⟩)), h.apart, h.key⟩
theorem flags_tch {w w' : World} {ws : List (Nat × Int)} {f : Int → Bool} {S : List Nat} (h : ∀ p ∈ ws, FlagAt w p.1 (f p.2)) (t : Tch S w w') (h1 : ∀ p ∈ ws, p.1 ∉ S) : ∀ p ∈ ws, FlagAt w' p.1 (f p.2) :=
  fun p hp => t.obj (h p hp) (h1 p hp)

theorem rows_cells {w : World} {qb : Nat} {ws : List (Nat × Int)} {f : Int → Bool} {es : List (Int × Value)} (h : WtAt w qb ws f es) {g : Nat} (hg : g ∈ rows es) : ∃ cur, w.heap[g]? = some (.cells cur 51 (0, 0)) := by
  obtain ⟨p, hp, hb⟩ := List.mem_filterMap.1 hg
  exact ownsRow_block (h.row p hp) hb

/-- Whatever holds other cells than those of a list of element types, and is none of the maps. -/
theorem Inr.heapBlock {w : World} {L : Lay} {x3 v : Value} {til last : Int} {hs : List Int} {pl : List (Int × Int)} {ws : List (Nat × Int)} {f : Int → Bool} {es : List (Int × Value)} (h : Inr w L x3 v til last hs pl ws f es) {g : Nat} (hg : v.ownBlock = some g) : ∃ cur, w.heap[g]? = some (.cells cur 28 (0, 0)) :=
  ownsRow_block h.hp.own hg

/-- Writes to the heap (its box and its row) leave the rest. -/
theorem Inr.heapTch {w w' : World} {L : Lay} {x3 v v' : Value} {til last : Int} {hs hs' : List Int} {pl : List (Int × Int)} {ws : List (Nat × Int)} {f : Int → Bool} {es : List (Int × Value)} (h : Inr w L x3 v til last hs pl ws f es)
    (t : Tch (L.ib :: v.ownBlock.toList) w w') (hh : HeapAt w' L.ib v' hs') : Inr w' L x3 v' til last hs' pl ws f es := by
  have hib : ∀ {b : Nat} {c : Array Value} {tt : TypeId}, w.heap[b]? = some (.cells c tt (0, 0)) → tt ≠ 61 → tt ≠ 28 → b ∉ L.ib :: v.ownBlock.toList := by
    intro b c tt hb h1 h2 hm
    rcases List.mem_cons.1 hm with rfl | hm
    · exact cells_ne hb h.hp.box h1 rfl
    · cases hv : v.ownBlock with
      | none => rw [hv] at hm; simp at hm
      | some g =>
        rw [hv] at hm; simp at hm; subst hm
        obtain ⟨cur, hc⟩ := h.heapBlock hv
        exact cells_ne hb hc h2 rfl
  have hmap : ∀ {b : Nat} {l : List (Int × Value)}, RMap .u64 w b l → b ∉ L.ib :: v.ownBlock.toList := by
    intro b l hb hm
    rcases List.mem_cons.1 hm with rfl | hm
    · exact hb.ne_cells h.hp.box rfl
    · cases hv : v.ownBlock with
      | none => rw [hv] at hm; simp at hm
      | some g =>
        rw [hv] at hm; simp at hm; subst hm
        obtain ⟨cur, hc⟩ := h.heapBlock hv
        exact hb.ne_cells hc rfl
  refine ⟨h.core.tch t (hib h.core.str (by decide) (by decide)) (hmap h.core.pend) (hib h.core.b1 (by decide) (by decide)) (hib h.core.b2 (by decide) (by decide)) (hib h.core.b3 (by decide) (by decide)), hh, h.wt.tch t (hmap h.wt.map) ?_, flags_tch h.flag t ?_⟩
  · intro g hg
    obtain ⟨cur, hc⟩ := rows_cells h.wt hg
    exact hib hc (by decide) (by decide)
  · intro p hp
    exact hib (h.flag p hp) (by decide) (by decide)

/-- Writes to the map of what is pending leave the rest. -/
theorem Inr.pendTch {w w' : World} {L : Lay} {x3 v : Value} {til last : Int} {hs : List Int} {pl pl' : List (Int × Int)} {ws : List (Nat × Int)} {f : Int → Bool} {es : List (Int × Value)} (h : Inr w L x3 v til last hs pl ws f es)
    (t : Tch [L.pb] w w') (hp : RMap .u64 w' L.pb (pl'.map fun p => (p.1, .int .i64 p.2))) : Inr w' L x3 v til last hs pl' ws f es := by
  have hne : ∀ {b : Nat} {c : Array Value} {tt : TypeId}, w.heap[b]? = some (.cells c tt (0, 0)) → b ∉ [L.pb] := by
    intro b c tt hb hm
    exact h.core.pend.ne_cells hb (List.mem_singleton.1 hm).symm
  refine ⟨⟨t.obj h.core.str (hne h.core.str), t.obj h.core.b1 (hne h.core.b1), t.obj h.core.b2 (hne h.core.b2), t.obj h.core.b3 (hne h.core.b3), hp, h.core.pq⟩, h.hp.tch t (hne h.hp.box) ?_, h.wt.tch t (by simpa using Ne.symm h.core.pq) ?_, flags_tch h.flag t (fun p hp => hne (h.flag p hp))⟩
  · intro g hg
    obtain ⟨cur, hc⟩ := h.heapBlock hg
    exact hne hc
  · intro g hg
    obtain ⟨cur, hc⟩ := rows_cells h.wt hg
    exact hne hc

/-- The mark is written. -/
theorem Inr.tilSet {w : World} {L : Lay} {x3 v : Value} {til last : Int} {hs : List Int} {pl : List (Int × Int)} {ws : List (Nat × Int)} {f : Int → Bool} {es : List (Int × Value)} (h : Inr w L x3 v til last hs pl ws f es) (u : Int) :
    Inr (w.setCell ⟨L.wb, 0, none⟩ (.int .u64 u)) L x3 v u last hs pl ws f es ∧ Tch [L.wb] w (w.setCell ⟨L.wb, 0, none⟩ (.int .u64 u)) := by
  have t : Tch [L.wb] w (w.setCell ⟨L.wb, 0, none⟩ (.int .u64 u)) := (Tch.refl _ _).setCell (p := ⟨L.wb, 0, none⟩) (fun _ => by simp) _
  have hne : ∀ {b : Nat} {c : Array Value} {tt : TypeId}, w.heap[b]? = some (.cells c tt (0, 0)) → tt ≠ 63 → b ∉ [L.wb] := by
    intro b c tt hb h1 hm
    exact cells_ne hb h.core.str h1 (by simpa using hm)
  have hmap : ∀ {b : Nat} {l : List (Int × Value)}, RMap .u64 w b l → b ∉ [L.wb] := by
    intro b l hb hm
    exact hb.ne_cells h.core.str (by simpa using hm)
  have hs := heap_setCell_same w L.wb 0 _ 63 (.int .u64 u) h.core.str
  refine ⟨⟨⟨by simpa using hs, t.obj h.core.b1 (hne h.core.b1 (by decide)), t.obj h.core.b2 (hne h.core.b2 (by decide)), t.obj h.core.b3 (hne h.core.b3 (by decide)), h.core.pend.tch t (hmap h.core.pend), h.core.pq⟩, h.hp.tch t (hne h.hp.box (by decide)) ?_, h.wt.tch t (hmap h.wt.map) ?_, flags_tch h.flag t (fun p hp => hne (h.flag p hp) (by decide))⟩, t⟩
  · intro g hg
    obtain ⟨cur, hc⟩ := h.heapBlock hg
    exact hne hc (by decide)
  · intro g hg
    obtain ⟨cur, hc⟩ := rows_cells h.wt hg
    exact hne hc (by decide)

theorem Core.cells {w : World} {L : Lay} {x3 : Value} {til last : Int} {pl : List (Int × Int)} (h : Core w L x3 til last pl) :
    w.cell? ⟨L.wb, 0, none⟩ = some (.int .u64 til) ∧ w.cell? ⟨L.wb, 1, none⟩ = some (.int .u64 last) ∧ w.cell? ⟨L.wb, 3, none⟩ = some x3 ∧ w.cell? ⟨L.wb, 4, none⟩ = some (.map (some L.pb)) ∧ w.cell? ⟨L.wb, 5, none⟩ = some (.map (some L.qb)) ∧ ∀ j, w.frozen? ⟨L.wb, j, none⟩ = false := by
  refine ⟨?_, ?_, ?_, ?_, ?_, fun j => frozen_of_row w L.wb j _ 63 h.str⟩
  all_goals (rw [cell_of_row w L.wb _ _ 63 (0, 0) h.str]; rfl)

theorem Inr.facts {w : World} {L : Lay} {x3 v : Value} {til last : Int} {hs : List Int} {pl : List (Int × Int)} {ws : List (Nat × Int)} {f : Int → Bool} {es : List (Int × Value)} (h : Inr w L x3 v til last hs pl ws f es) :
    w.cell? ⟨L.pbx, 0, none⟩ = some (.map (some L.pb)) ∧ w.cell? ⟨L.wbx, 0, none⟩ = some (ptr L.wb) ∧ w.cell? ⟨L.qbx, 0, none⟩ = some (.map (some L.qb)) ∧ w.cell? ⟨L.ib, 0, none⟩ = some v ∧ w.cell? ⟨L.wb, 0, none⟩ = some (.int .u64 til) ∧ w.frozen? ⟨L.wb, 0, none⟩ = false :=
  ⟨cell_of_one h.core.b1, cell_of_one h.core.b2, cell_of_one h.core.b3, cell_of_one h.hp.box, h.core.cells.1, h.core.cells.2.2.2.2.2 0⟩

end Go.Proofs.Ytaheafmdkbobcaa
