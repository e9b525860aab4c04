/- process: one index, or some. -/
import Derived.Test.YtaheafmdkbobcaaOne
import Derived.Defers
import Derived.BigRegion
namespace Go.Proofs.Ytaheafmdkbobcaa
open Go.RowKit

/-- The boxes that process lays: of the receiver, of the mark, of the heap's slice, of the two maps. -/
structure Boxes (w : World) (B : Bk) (cs : Array Value) (v : Value) (p q : Nat) (wx : World) : Prop where
  t : Tch [] w wx
  b0 : wx.heap[w.heap.size]? = some (.cells #[ptr B.wb] 46 (0, 0))
  b1 : wx.heap[w.heap.size + 1]? = some (.cells cs 66 (0, 0))
  b2 : wx.heap[w.heap.size + 2]? = some (.cells #[v] 61 (0, 0))
  b3 : wx.heap[p]? = some (.cells #[.map (some B.pb)] 59 (0, 0))
  b4 : wx.heap[q]? = some (.cells #[.map (some B.qb)] 60 (0, 0))
  hp : w.heap.size ≤ p
  hq : w.heap.size ≤ q

/-- The first three boxes. -/
theorem three_boxes (w : World) (B : Bk) (cs : Array Value) (v : Value) : ∃ W3, ((w.alloc (.cells #[ptr B.wb] 46)).alloc (.cells cs 66)).alloc (.cells #[v] 61) = W3 ∧ W3.heap.size = w.heap.size + 3 ∧ Tch [] w W3 ∧
    W3.heap[w.heap.size]? = some (.cells #[ptr B.wb] 46 (0, 0)) ∧ W3.heap[w.heap.size + 1]? = some (.cells cs 66 (0, 0)) ∧ W3.heap[w.heap.size + 2]? = some (.cells #[v] 61 (0, 0)) := by
  refine ⟨_, rfl, by simp, (((Tch.refl _ _).alloc _).alloc _).alloc _, ?_, ?_, ?_⟩
  · rw [heap_get_alloc, if_neg (by simp; omega), heap_get_alloc, if_neg (by simp), heap_get_alloc, if_pos rfl]
  · rw [heap_get_alloc, if_neg (by simp), heap_get_alloc, if_pos (by simp)]
  · rw [heap_get_alloc, if_pos (by simp)]

theorem Boxes.of {w W3 : World} {B : Bk} {cs : Array Value} {v : Value} {p q : Nat} {wx : World} (hs : W3.heap.size = w.heap.size + 3) (h0 : Tch [] w W3)
    (b0 : W3.heap[w.heap.size]? = some (.cells #[ptr B.wb] 46 (0, 0))) (b1 : W3.heap[w.heap.size + 1]? = some (.cells cs 66 (0, 0))) (b2 : W3.heap[w.heap.size + 2]? = some (.cells #[v] 61 (0, 0)))
    (t : Tch [] W3 wx) (b3 : wx.heap[p]? = some (.cells #[.map (some B.pb)] 59 (0, 0))) (b4 : wx.heap[q]? = some (.cells #[.map (some B.qb)] 60 (0, 0))) (hp : W3.heap.size ≤ p) (hq : W3.heap.size ≤ q) : Boxes w B cs v p q wx :=
  ⟨h0.trans t, t.obj b0 (by simp), t.obj b1 (by simp), t.obj b2 (by simp), b3, b4, by omega, by omega⟩

theorem two_a {W3 wx : World} {o o' : Obj} (h : wx.Alike ((W3.alloc o).alloc o')) : Tch [] W3 wx ∧ wx.heap[W3.heap.size]? = some o ∧ wx.heap[W3.heap.size + 1]? = some o' := by
  refine ⟨Tch.alike (((Tch.refl _ _).alloc _).alloc _) h, ?_, ?_⟩
  · rw [h.1, heap_get_alloc, if_neg (by simp), heap_get_alloc, if_pos rfl]
  · rw [h.1, heap_get_alloc, if_pos (by simp)]

set_option maxHeartbeats 400000 in
theorem put_back (ib wbx wb n c : Nat) (a : Option Addr) (old : Value) (u : FrameMode) (w : World) (h0 : w.cell? ⟨ib, 0, none⟩ = some (.slice a n c)) (h1 : w.cell? ⟨wbx, 0, none⟩ = some (ptr wb)) (h2 : w.cell? ⟨wb, 3, none⟩ = some old) (h3 : w.frozen? ⟨wb, 3, none⟩ = false) :
    CallsD Try.prog 35 #[ptr ib, ptr wbx] u w fun e u' w' => u' = u ∧ (e = .returned (.tuple #[]) ∧ w' = w.setCell ⟨wb, 3, none⟩ (.slice a n c)) := by
  go_enter_d Try.func35, Try.ntmps35
  go_wp2
  go_end0
  exact ⟨rfl, rfl⟩

/-- Some indices begin, or are done, one after the other. -/
def nextMany (s : MSt) (l : List Int) (dn : Bool) : MSt := l.foldl (fun s x => next1 s x dn) s
def okMany (s : MSt) : List Int → Bool → Prop
  | [], _ => True
  | x :: l, dn => ok1 s x dn ∧ okMany (next1 s x dn) l dn

theorem Good.mono {s : MSt} {N M : Nat} (G : Good s N) (h : N ≤ M) : Good s M :=
  ⟨G.t0, G.t1, G.keys, fun p hp => by have := G.cnts p hp; omega, G.least, G.nd, G.wnd, by have := G.len; omega, by have := G.wlen; omega⟩

theorem next1_last (s : MSt) (x : Int) (dn : Bool) : (next1 s x dn).last = s.last ∧ (next1 s x dn).ws = s.ws := by
  unfold next1; split <;> exact ⟨rfl, rfl⟩
theorem nextMany_last (l : List Int) (dn : Bool) : ∀ s : MSt, (nextMany s l dn).last = s.last ∧ (nextMany s l dn).ws = s.ws := by
  induction l with
  | nil => intro s; exact ⟨rfl, rfl⟩
  | cons x l ih => intro s; obtain ⟨a, b⟩ := ih (next1 s x dn); obtain ⟨c, d⟩ := next1_last s x dn; exact ⟨by show (nextMany (next1 s x dn) l dn).last = _; rw [a, c], by show (nextMany (next1 s x dn) l dn).ws = _; rw [b, d]⟩

/-- Where process stands between two indices. -/
structure Mid (w : World) (B : Bk) (fp : List Nat) (L : Lay) (x3 v0 : Value) (es0 : List (Int × Value)) (mb : Nat) (cs : Array Value) (s : MSt) (wr : World) : Prop where
  ex : ∃ v hs es, Inr wr L x3 v s.til s.last hs s.pl s.ws (told s) es ∧ hs.Perm (s.pl.map Prod.fst) ∧ IsHp hs ∧ (∀ k ∈ rows es, k ∈ rows es0) ∧ (v.ownBlock = v0.ownBlock ∨ ∃ k, v.ownBlock = some k ∧ w.heap.size ≤ k)
  t : Tch fp w wr
  box : wr.heap[mb]? = some (.cells cs 66 (0, 0))

/-- A step of one index. -/
theorem Mid.step {w : World} {B : Bk} {fp : List Nat} {L : Lay} {x3 v0 : Value} {es0 : List (Int × Value)} {mb : Nat} {cs : Array Value} {s : MSt} {wr : World} (h : Mid w B fp L x3 v0 es0 mb cs s wr) (hB : L.wb ∈ fp ∧ L.pb ∈ fp ∧ L.qb ∈ fp) (hib : w.heap.size ≤ L.ib) (hv : ∀ k, v0.ownBlock = some k → k ∈ fp) (hws : ∀ p ∈ s.ws, p.1 ∈ fp)
    (x : Int) (dn : Bool) (G : Good s 100000) (hok : ok1 s x dn) :
    Calls Try.prog 36 #[.int .u64 x, .bool dn, ptr L.pbx, ptr L.ib, ptr L.wbx, ptr L.qbx] wr fun e w' => e = .returned (.tuple #[]) ∧ Mid w B fp L x3 v0 es0 mb cs (next1 s x dn) w' := by
  obtain ⟨v, hs, es, hi, hp, hh, hr, hvv⟩ := h.ex
  refine (one_any x dn L x3 v hs es s wr G hok hi hp hh).mono ?_
  rintro e w' ⟨he, v', hs', es', r1, r2, r3, r4, r5, r6⟩
  have hl := (next1_last s x dn)
  refine ⟨he, ⟨v', hs', es', by rw [hl.1, hl.2]; exact r1, r2, r3, fun k hk => hr k (r4 k hk), ?_⟩, h.t.then r6 ?_, r6.obj h.box ?_⟩
  · rcases r5 with r5 | ⟨k, r5, hk⟩
    · rw [r5]; exact hvv
    · exact .inr ⟨k, r5, Nat.le_trans h.t.size hk⟩
  · intro i hi hm
    simp only [List.mem_cons, List.mem_append] at hm
    rcases hm with rfl | rfl | rfl | rfl | hm | hm
    · exact hB.1
    · exact hB.2.1
    · exact hB.2.2
    · omega
    · rcases hvv with hvv | ⟨k, hvv, hk⟩
      · rw [hvv] at hm
        cases hv0 : v0.ownBlock with
        | none => rw [hv0] at hm; simp at hm
        | some g => rw [hv0] at hm; simp at hm; subst hm; exact hv _ hv0
      · rw [hvv] at hm; simp at hm; omega
    · obtain ⟨p, hp, rfl⟩ := List.mem_map.1 hm
      exact hws p hp
  · intro hm
    simp only [List.mem_cons, List.mem_append] at hm
    rcases hm with rfl | rfl | rfl | rfl | hm | hm
    · exact cells_ne h.box hi.core.str (by decide) rfl
    · exact hi.core.pend.ne_cells h.box rfl
    · exact hi.wt.map.ne_cells h.box rfl
    · exact cells_ne h.box hi.hp.box (by decide) rfl
    · cases hv0 : v.ownBlock with
      | none => rw [hv0] at hm; simp at hm
      | some g =>
        rw [hv0] at hm; simp at hm; subst hm
        obtain ⟨cur, hc⟩ := hi.heapBlock hv0
        exact cells_ne h.box hc (by decide) rfl
    · obtain ⟨p, hp, rfl⟩ := List.mem_map.1 hm
      exact cells_ne h.box (hi.flag p hp) (by decide) rfl

/-- The end: the deferred call has stored the slice. -/
theorem Mid.fin {w : World} {B : Bk} {fp : List Nat} {L : Lay} {x3 v0 : Value} {es0 : List (Int × Value)} {mb : Nat} {cs : Array Value} {s : MSt} {wr : World} (h : Mid w B fp L x3 v0 es0 mb cs s wr) (hL : L.wb = B.wb ∧ L.pb = B.pb ∧ L.qb = B.qb) (hB : L.wb ∈ fp ∧ L.pb ∈ fp ∧ L.qb ∈ fp) (hv : ∀ k, v0.ownBlock = some k → k ∈ fp) (hws : ∀ p ∈ s.ws, p.1 ∈ fp) (hes : ∀ k ∈ rows es0, k ∈ fp) :
    ∃ a n c, wr.cell? ⟨L.ib, 0, none⟩ = some (.slice a n c) ∧ wr.cell? ⟨L.wbx, 0, none⟩ = some (ptr L.wb) ∧ (∃ old, wr.cell? ⟨L.wb, 3, none⟩ = some old) ∧ wr.frozen? ⟨L.wb, 3, none⟩ = false ∧ Leaves1 w B fp s (wr.setCell ⟨L.wb, 3, none⟩ (.slice a n c)) := by
  obtain ⟨v, hs, es, hi, hp, hh, hr, hvv⟩ := h.ex
  obtain ⟨f1, f2, f3, f4, f5, f6⟩ := hi.facts
  obtain ⟨a, c, hv'⟩ := ownsRow_slice hi.hp.own
  obtain ⟨m1, m2⟩ := hi.toMk hp hh
  refine ⟨a, hs.length, c, by rw [f4, hv'], f2, ⟨_, hi.core.cells.2.2.1⟩, hi.core.cells.2.2.2.2.2 3, ?_⟩
  rw [← hv']
  obtain ⟨e1, e2, e3⟩ := hL
  have hBk : (⟨L.wb, L.pb, L.qb⟩ : Bk) = B := by cases B; simp_all
  rw [hBk] at m1
  refine ⟨foot B v es s, ⟨v, hs, es, m1, fun k hk => hk⟩, ?_, h.t.then m2 ?_⟩
  · intro k hk
    simp only [foot, List.mem_cons, List.mem_append] at hk
    rcases hk with rfl | rfl | rfl | (hk | hk) | hk
    · exact .inl (e1 ▸ hB.1)
    · exact .inl (e2 ▸ hB.2.1)
    · exact .inl (e3 ▸ hB.2.2)
    · rcases hvv with hvv | ⟨k', hvv, hk'⟩
      · rw [hvv] at hk
        cases hv0 : v0.ownBlock with
        | none => rw [hv0] at hk; simp at hk
        | some g => rw [hv0] at hk; simp at hk; subst hk; exact .inl (hv _ hv0)
      · rw [hvv] at hk; simp at hk; subst hk; exact .inr hk'
    · obtain ⟨p, hp, rfl⟩ := List.mem_map.1 hk
      exact .inl (hws p hp)
    · exact .inl (hes k (hr k hk))
  · intro i _ hm
    have := List.mem_singleton.1 hm
    rw [this]; exact hB.1

end Go.Proofs.Ytaheafmdkbobcaa
