/- A water mark in memory between two calls. -/
import Derived.Test.YtaheafmdkbobcaaOneD
import Derived.Deep.DeepCutAuto
namespace Go.Proofs.Ytaheafmdkbobcaa
open Go.RowKit

/-- What a water mark tells: the mark, the last index, what is pending, and all that has waited for an index the mark had not come to (its block, its index). -/
structure MSt where
  til : Int
  last : Int
  pl : List (Int × Int)
  ws : List (Nat × Int)

/-- The blocks of the struct and of its two maps. -/
structure Bk where
  wb : Nat
  pb : Nat
  qb : Nat

def told (s : MSt) : Int → Bool := fun i => decide (i ≤ s.til)

structure Mk (w : World) (B : Bk) (v : Value) (hs : List Int) (es : List (Int × Value)) (s : MSt) : Prop where
  str : w.heap[B.wb]? = some (.cells #[.int .u64 s.til, .int .u64 s.last, .string ⟨#[]⟩, v, .map (some B.pb), .map (some B.qb)] 63 (0, 0))
  own : w.ownsRow 0 28 1 v hs.length (U hs)
  pend : RMap .u64 w B.pb (s.pl.map fun p => (p.1, .int .i64 p.2))
  pq : B.pb ≠ B.qb
  wt : WtAt w B.qb s.ws (told s) es
  flag : ∀ p ∈ s.ws, FlagAt w p.1 (told s p.2)
  perm : hs.Perm (s.pl.map Prod.fst)
  heap : IsHp hs

def foot (B : Bk) (v : Value) (es : List (Int × Value)) (s : MSt) : List Nat := B.wb :: B.pb :: B.qb :: (v.ownBlock.toList ++ s.ws.map Prod.fst ++ rows es)

/-- A water mark whose blocks are among fp. -/
def MkAt (w : World) (B : Bk) (fp : List Nat) (s : MSt) : Prop := ∃ v hs es, Mk w B v hs es s ∧ ∀ k ∈ foot B v es s, k ∈ fp

theorem Mk.lt {w : World} {B : Bk} {v : Value} {hs : List Int} {es : List (Int × Value)} {s : MSt} (h : Mk w B v hs es s) : ∀ k ∈ foot B v es s, k < w.heap.size := by
  intro k hk
  simp only [foot, List.mem_cons, List.mem_append] at hk
  rcases hk with rfl | rfl | rfl | (hk | hk) | hk
  · exact lt_of_obj h.str
  · exact h.pend.lt
  · exact h.wt.map.lt
  · cases hv : v.ownBlock with
    | none => rw [hv] at hk; simp at hk
    | some g =>
      rw [hv] at hk; simp at hk; subst hk
      obtain ⟨cur, hc⟩ := ownsRow_block h.own hv
      exact lt_of_obj hc
  · obtain ⟨p, hp, rfl⟩ := List.mem_map.1 hk
    exact lt_of_obj (h.flag p hp)
  · obtain ⟨cur, hc⟩ := rows_cells h.wt hk
    exact lt_of_obj hc

/-- Writes elsewhere leave it. -/
theorem Mk.tch {w w' : World} {B : Bk} {v : Value} {hs : List Int} {es : List (Int × Value)} {s : MSt} {S : List Nat} (h : Mk w B v hs es s) (t : Tch S w w') (hd : ∀ k ∈ foot B v es s, k ∉ S) : Mk w' B v hs es s := by
  have h1 : ∀ k ∈ v.ownBlock.toList, k ∉ S := fun k hk => hd k (by simp only [foot, List.mem_cons, List.mem_append]; exact .inr (.inr (.inr (.inl (.inl hk)))))
  have h2 : ∀ k ∈ s.ws.map Prod.fst, k ∉ S := fun k hk => hd k (by simp only [foot, List.mem_cons, List.mem_append]; exact .inr (.inr (.inr (.inl (.inr hk)))))
  have h3 : ∀ k ∈ rows es, k ∉ S := fun k hk => hd k (by simp only [foot, List.mem_cons, List.mem_append]; exact .inr (.inr (.inr (.inr hk))))
  exact ⟨t.obj h.str (hd _ (by simp [foot])), t.own h.own (fun g hg => h1 g (by rw [hg]; simp)), h.pend.tch t (hd _ (by simp [foot])), h.pq, h.wt.tch t (hd _ (by simp [foot])) h3,
    flags_tch h.flag t (fun p hp => h2 _ (List.mem_map.2 ⟨p, hp, rfl⟩)), h.perm, h.heap⟩

theorem MkAt.tch {w w' : World} {B : Bk} {fp : List Nat} {s : MSt} {S : List Nat} (h : MkAt w B fp s) (t : Tch S w w') (hd : ∀ k ∈ fp, k ∉ S) : MkAt w' B fp s := by
  obtain ⟨v, hs, es, hm, hf⟩ := h
  exact ⟨v, hs, es, hm.tch t (fun k hk => hd k (hf k hk)), hf⟩

theorem heap_get_alloc (w : World) (o : Obj) (k : Nat) : (w.alloc o).heap[k]? = if k = w.heap.size then some o else w.heap[k]? := by
  show (w.heap.push o)[k]? = _
  rw [Array.getElem?_push]

/-- .. as process sees it, with its boxes laid. -/
theorem Mk.inr {w w1 : World} {B : Bk} {v : Value} {hs : List Int} {es : List (Int × Value)} {s : MSt} (h : Mk w B v hs es s) (t : Tch [] w w1) (ib pbx wbx qbx : Nat)
    (b0 : w1.heap[ib]? = some (.cells #[v] 61 (0, 0))) (b1 : w1.heap[pbx]? = some (.cells #[.map (some B.pb)] 59 (0, 0))) (b2 : w1.heap[wbx]? = some (.cells #[ptr B.wb] 46 (0, 0))) (b3 : w1.heap[qbx]? = some (.cells #[.map (some B.qb)] 60 (0, 0))) :
    Inr w1 ⟨B.wb, B.pb, B.qb, ib, pbx, wbx, qbx⟩ v v s.til s.last hs s.pl s.ws (told s) es := by
  have h' := h.tch t (by simp)
  exact ⟨⟨h'.str, b1, b2, b3, h'.pend, h'.pq⟩, ⟨b0, h'.own⟩, h'.wt, h'.flag⟩

/-- .. and back, when the deferred call has stored the heap's slice. -/
theorem Inr.toMk {w1 : World} {L : Lay} {x3 v : Value} {til last : Int} {hs : List Int} {pl : List (Int × Int)} {ws : List (Nat × Int)} {es : List (Int × Value)} (h : Inr w1 L x3 v til last hs pl ws (fun i => decide (i ≤ til)) es)
    (hp : hs.Perm (pl.map Prod.fst)) (hh : IsHp hs) : Mk (w1.setCell ⟨L.wb, 3, none⟩ v) ⟨L.wb, L.pb, L.qb⟩ v hs es ⟨til, last, pl, ws⟩ ∧ Tch [L.wb] w1 (w1.setCell ⟨L.wb, 3, none⟩ v) := by
  have t : Tch [L.wb] w1 (w1.setCell ⟨L.wb, 3, none⟩ v) := (Tch.refl _ _).setCell (p := ⟨L.wb, 3, none⟩) (fun _ => by simp) _
  have hne : ∀ {b : Nat} {c : Array Value} {tt : TypeId}, w1.heap[b]? = some (.cells c tt (0, 0)) → tt ≠ 63 → b ∉ [L.wb] := by
    intro b c tt hb h1 hm
    exact cells_ne hb h.core.str h1 (by simpa using hm)
  have hmap : ∀ {b : Nat} {l : List (Int × Value)}, RMap .u64 w1 b l → b ∉ [L.wb] := by
    intro b l hb hm
    exact hb.ne_cells h.core.str (by simpa using hm)
  have hs' := heap_setCell_same w1 L.wb 3 _ 63 v h.core.str
  refine ⟨⟨by simpa using hs', t.own h.hp.own ?_, h.core.pend.tch t (hmap h.core.pend), h.core.pq, h.wt.tch t (hmap h.wt.map) ?_, flags_tch h.flag t (fun p hp => hne (h.flag p hp) (by decide)), hp, hh⟩, t⟩
  · intro g hg
    obtain ⟨cur, hc⟩ := h.heapBlock hg
    exact hne hc (by decide)
  · intro g hg
    obtain ⟨cur, hc⟩ := rows_cells h.wt hg
    exact hne hc (by decide)

/-- What a step leaves: a water mark in the state s', whose blocks are old ones of it or new; nothing but its own blocks has been written. -/
def Leaves1 (w : World) (B : Bk) (fp : List Nat) (s' : MSt) (w' : World) : Prop := ∃ fp', MkAt w' B fp' s' ∧ (∀ k ∈ fp', k ∈ fp ∨ w.heap.size ≤ k) ∧ Tch fp w w'

theorem Leaves1.trans {w w1 w2 : World} {B : Bk} {fp fp1 : List Nat} {s2 : MSt} (h1 : Tch fp w w1) (hf : ∀ k ∈ fp1, k ∈ fp ∨ w.heap.size ≤ k) (h2 : Leaves1 w1 B fp1 s2 w2) : Leaves1 w B fp s2 w2 := by
  obtain ⟨fp2, m2, f2, t2⟩ := h2
  refine ⟨fp2, m2, fun k hk => ?_, h1.then t2 (fun i hi hm => ?_)⟩
  · rcases f2 k hk with h | h
    · exact hf k h
    · exact .inr (Nat.le_trans h1.size h)
  · rcases hf i hm with h | h
    · exact h
    · omega

end Go.Proofs.Ytaheafmdkbobcaa
