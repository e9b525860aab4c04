/- levelTargets: what it writes. -/
import Derived.Test.YtdofgamahjmohaaLwD
import Derived.BigRegion
import Derived.Deep.OwnRows
namespace Go.Proofs.Ytdofgamahjmohaa
open Go.RowKit Go.Deep
set_option maxRecDepth 100000

theorem Try.infoI64 : (Try.prog.info? 2).map (fun i => (i.zero, i.size, i.bytes)) = some (some (.int .i64 0), 1, 8) := by kernel_rfl

/-- A row of n numbers. -/
def arr (n : Nat) (f : Nat → Int) : Array Value := ((List.range n).map fun i => Value.int .i64 (f i)).toArray
theorem arr_at {n : Nat} {f : Nat → Int} {i : Nat} (h : i < n) : (arr n f)[i]? = some (.int .i64 (f i)) := by
  unfold arr
  simp [h]
theorem arr_set {n : Nat} {f : Nat → Int} {i : Nat} {v : Int} : (arr n f).setIfInBounds i (.int .i64 v) = arr n (fun j => if j = i then v else f j) := by
  apply Array.ext'
  apply List.ext_getElem?
  intro j
  unfold arr
  simp only [List.setIfInBounds_toArray, List.getElem?_set, List.length_map, List.length_range, List.getElem?_map]
  by_cases e : i = j
  · subst e
    by_cases hi : i < n
    · simp [hi]
    · simp [hi]
  · have e2 : ¬ j = i := fun h => e h.symm
    by_cases hj : j < n
    · simp [e, e2, hj]
    · simp [e, hj]
theorem arr_made (n : Nat) : madeCells #[.int .i64 0] n = arr n (fun _ => 0) := by
  apply Array.ext'
  rw [toList_madeCells_one]
  unfold arr
  apply List.ext_getElem?
  intro j
  by_cases hj : j < n
  · simp [hj]
  · simp [hj]
theorem arr_congr {n : Nat} {f g : Nat → Int} (h : ∀ i, i < n → f i = g i) : arr n f = arr n g := by
  unfold arr
  congr 1
  apply List.map_congr_left
  intro i hi
  rw [h i (List.mem_range.1 hi)]

/-- What levelTargets has written: the box of the receiver, the cell of the answer, the answer in the making, its two rows. -/
structure TS (w0 w : World) (gs bx gr gt gA gB n : Nat) (base : Int) (f g : Nat → Int) : Prop where
  t : Tch [] w0 w
  lr : w0.heap.size ≤ gr
  lt : w0.heap.size ≤ gt
  lA : w0.heap.size ≤ gA
  lB : w0.heap.size ≤ gB
  box : w.heap[bx]? = some (.cells #[ptr gs] 99 (0, 0))
  res : w.heap[gr]? = some (.cells #[.int .i64 0, .slice none 0 0, .slice none 0 0] 98 (0, 0))
  cell : w.heap[gt]? = some (.cells #[.int .i64 base, .slice (some ⟨gA, 0, none⟩) n n, .slice (some ⟨gB, 0, none⟩) n n] 98 (0, 0))
  rA : w.heap[gA]? = some (.cells (arr n f) 2 (0, 0))
  rB : w.heap[gB]? = some (.cells (arr n g) 2 (0, 0))
  n1 : gt ≠ gr
  n2 : gA ≠ gB

theorem TS.tch {w0 w w' : World} {gs bx gr gt gA gB n : Nat} {base : Int} {f g : Nat → Int} (h : TS w0 w gs bx gr gt gA gB n base f g) (k : Tch [] w w') : TS w0 w' gs bx gr gt gA gB n base f g :=
  ⟨h.t.trans k, h.lr, h.lt, h.lA, h.lB, k.obj h.box (by simp), k.obj h.res (by simp), k.obj h.cell (by simp), k.obj h.rA (by simp), k.obj h.rB (by simp), h.n1, h.n2⟩

theorem TS.congr {w0 w : World} {gs bx gr gt gA gB n : Nat} {base : Int} {f g f' g' : Nat → Int} (h : TS w0 w gs bx gr gt gA gB n base f g) (hf : ∀ i, i < n → f i = f' i) (hg : ∀ i, i < n → g i = g' i) : TS w0 w gs bx gr gt gA gB n base f' g' :=
  ⟨h.t, h.lr, h.lt, h.lA, h.lB, h.box, h.res, h.cell, by rw [← arr_congr hf]; exact h.rA, by rw [← arr_congr hg]; exact h.rB, h.n1, h.n2⟩

/-- The cells that are read. -/
theorem TS.cells {w0 w : World} {gs bx gr gt gA gB n : Nat} {base : Int} {f g : Nat → Int} (h : TS w0 w gs bx gr gt gA gB n base f g) :
    (w.cell? ⟨bx, 0, none⟩ = some (ptr gs) ∧ w.cell? ⟨gt, 0, none⟩ = some (.int .i64 base) ∧ w.cell? ⟨gt, 1, none⟩ = some (.slice (some ⟨gA, 0, none⟩) n n) ∧ w.cell? ⟨gt, 2, none⟩ = some (.slice (some ⟨gB, 0, none⟩) n n)) ∧
    (∀ i, i < n → w.cell? ⟨gA, i, none⟩ = some (.int .i64 (f i))) ∧ (∀ i, i < n → w.cell? ⟨gB, i, none⟩ = some (.int .i64 (g i))) ∧
    ∀ b i, b = gt ∨ b = gA ∨ b = gB ∨ b = gr → w.frozen? ⟨b, i, none⟩ = false := by
  refine ⟨⟨?_, ?_, ?_, ?_⟩, fun i hi => ?_, fun i hi => ?_, fun b i hb => ?_⟩
  · rw [cell_of_row w _ _ _ 99 (0, 0) h.box]; rfl
  · rw [cell_of_row w _ _ _ 98 (0, 0) h.cell]; rfl
  · rw [cell_of_row w _ _ _ 98 (0, 0) h.cell]; rfl
  · rw [cell_of_row w _ _ _ 98 (0, 0) h.cell]; rfl
  · rw [cell_of_row w _ _ _ 2 (0, 0) h.rA]; exact arr_at hi
  · rw [cell_of_row w _ _ _ 2 (0, 0) h.rB]; exact arr_at hi
  · have hr := h.res
    rcases hb with rfl | rfl | rfl | rfl
    · simp only [World.frozen?, h.cell]; first | rfl | simp
    · simp only [World.frozen?, h.rA]; first | rfl | simp
    · simp only [World.frozen?, h.rB]; first | rfl | simp
    · simp only [World.frozen?, hr]; first | rfl | simp

/-- The answer's cells, once it is stored. -/
theorem TS.last {w0 w : World} {gs bx gr gt gA gB n : Nat} {base : Int} {f g : Nat → Int} (h : TS w0 w gs bx gr gt gA gB n base f g) (a b c : Value) :
    let w' := ((w.setCell ⟨gr, 0, none⟩ a).setCell ⟨gr, 1, none⟩ b).setCell ⟨gr, 2, none⟩ c
    w'.heap[gr]? = some (.cells #[a, b, c] 98 (0, 0)) ∧ w'.heap[gA]? = some (.cells (arr n f) 2 (0, 0)) ∧ w'.heap[gB]? = some (.cells (arr n g) 2 (0, 0)) ∧ Tch [] w0 w' := by
  intro w'
  have t1 : Tch [gr] w w' := (((Tch.refl _ _).setCell (p := ⟨gr, 0, none⟩) (fun _ => by simp) _).setCell (p := ⟨gr, 1, none⟩) (fun _ => by simp) _).setCell (p := ⟨gr, 2, none⟩) (fun _ => by simp) _
  have ne : ∀ {b : Nat} {c : Array Value} {e : TypeId}, w.heap[b]? = some (.cells c e (0, 0)) → e ≠ 98 → b ∉ [gr] := fun hb he hm => cells_ne hb h.res he (List.mem_singleton.1 hm)
  refine ⟨?_, t1.obj h.rA (ne h.rA (by decide)), t1.obj h.rB (ne h.rB (by decide)), h.t.then t1 (fun k hk hm => absurd hk (by rw [List.mem_singleton.1 hm]; have := h.lr; omega))⟩
  have h0 := heap_setCell_same w gr 0 _ _ a h.res
  have h1 := heap_setCell_same _ gr 1 _ _ b h0
  have h2 := heap_setCell_same _ gr 2 _ _ c h1
  exact h2

theorem TS.setA {w0 w : World} {gs bx gr gt gA gB n : Nat} {base : Int} {f g : Nat → Int} (h : TS w0 w gs bx gr gt gA gB n base f g) (i : Nat) (v : Int) :
    TS w0 (w.setCell ⟨gA, i, none⟩ (.int .i64 v)) gs bx gr gt gA gB n base (fun j => if j = i then v else f j) g := by
  have ts : Tch [gA] w (w.setCell ⟨gA, i, none⟩ (.int .i64 v)) := (Tch.refl _ _).setCell (p := ⟨gA, i, none⟩) (fun _ => by simp) _
  have hr := h.res
  have ne : ∀ {b : Nat} {c : Array Value} {e : TypeId}, w.heap[b]? = some (.cells c e (0, 0)) → e ≠ 2 → b ∉ [gA] := fun hb he hm => cells_ne hb h.rA he (List.mem_singleton.1 hm)
  refine ⟨h.t.then ts (fun k hk hm => absurd hk (by rw [List.mem_singleton.1 hm]; have := h.lA; omega)), h.lr, h.lt, h.lA, h.lB, ts.obj h.box (ne h.box (by decide)), ts.obj hr (ne hr (by decide)), ts.obj h.cell (ne h.cell (by decide)), by rw [heap_setCell_same w gA i _ _ _ h.rA, arr_set], ts.obj h.rB (by simpa using fun e => h.n2 e.symm), h.n1, h.n2⟩
theorem TS.setB {w0 w : World} {gs bx gr gt gA gB n : Nat} {base : Int} {f g : Nat → Int} (h : TS w0 w gs bx gr gt gA gB n base f g) (i : Nat) (v : Int) :
    TS w0 (w.setCell ⟨gB, i, none⟩ (.int .i64 v)) gs bx gr gt gA gB n base f (fun j => if j = i then v else g j) := by
  have ts : Tch [gB] w (w.setCell ⟨gB, i, none⟩ (.int .i64 v)) := (Tch.refl _ _).setCell (p := ⟨gB, i, none⟩) (fun _ => by simp) _
  have hr := h.res
  have ne : ∀ {b : Nat} {c : Array Value} {e : TypeId}, w.heap[b]? = some (.cells c e (0, 0)) → e ≠ 2 → b ∉ [gB] := fun hb he hm => cells_ne hb h.rB he (List.mem_singleton.1 hm)
  refine ⟨h.t.then ts (fun k hk hm => absurd hk (by rw [List.mem_singleton.1 hm]; have := h.lB; omega)), h.lr, h.lt, h.lA, h.lB, ts.obj h.box (ne h.box (by decide)), ts.obj hr (ne hr (by decide)), ts.obj h.cell (ne h.cell (by decide)), ts.obj h.rA (by simpa using h.n2), by rw [heap_setCell_same w gB i _ _ _ h.rB, arr_set], h.n1, h.n2⟩
theorem TS.setBase {w0 w : World} {gs bx gr gt gA gB n : Nat} {base : Int} {f g : Nat → Int} (h : TS w0 w gs bx gr gt gA gB n base f g) (v : Int) :
    TS w0 (w.setCell ⟨gt, 0, none⟩ (.int .i64 v)) gs bx gr gt gA gB n v f g := by
  have ts : Tch [gt] w (w.setCell ⟨gt, 0, none⟩ (.int .i64 v)) := (Tch.refl _ _).setCell (p := ⟨gt, 0, none⟩) (fun _ => by simp) _
  have hr := h.res
  have ne : ∀ {b : Nat} {c : Array Value} {e : TypeId}, w.heap[b]? = some (.cells c e (0, 0)) → e ≠ 98 → b ∉ [gt] := fun hb he hm => cells_ne hb h.cell he (List.mem_singleton.1 hm)
  refine ⟨h.t.then ts (fun k hk hm => absurd hk (by rw [List.mem_singleton.1 hm]; have := h.lt; omega)), h.lr, h.lt, h.lA, h.lB, ts.obj h.box (ne h.box (by decide)), ts.obj hr (by simpa using fun e => h.n1 e.symm), by rw [heap_setCell_same w gt 0 _ _ _ h.cell]; rfl, ts.obj h.rA (ne h.rA (by decide)), ts.obj h.rB (ne h.rB (by decide)), h.n1, h.n2⟩

theorem alloc_at {w : World} {o : Obj} {k : Nat} (h : k = w.heap.size) : (w.alloc o).heap[k]? = some o := by rw [heap_get_alloc, if_pos h]
/-- Three blocks that are laid one after the other, behind the box and the cell of the answer. -/
structure Pos3 (w W : World) (gs : Nat) (o1 o2 o3 : Obj) : Prop where
  t : Tch [] w W
  box : W.heap[w.heap.size]? = some (.cells #[ptr gs] 99 (0, 0))
  res : W.heap[w.heap.size + 1]? = some (.cells #[.int .i64 0, .slice none 0 0, .slice none 0 0] 98 (0, 0))
  p1 : W.heap[w.heap.size + 1 + 1]? = some o1
  p2 : W.heap[w.heap.size + 1 + 1 + 1]? = some o2
  p3 : W.heap[w.heap.size + 1 + 1 + 1 + 1]? = some o3
theorem pos3 (w : World) (gs : Nat) (o1 o2 o3 : Obj) (q : Nat) : Pos3 w ((((((w.alloc (.cells #[ptr gs] 99)).alloc (.cells #[.int .i64 0, .slice none 0 0, .slice none 0 0] 98)).alloc o1).alloc o2).alloc o3).drewN q) gs o1 o2 o3 := by
  have t : ∀ x : World, ∀ a b c d, Tch [] x (((((x.alloc a).alloc b).alloc c).alloc d).drewN q) := fun x a b c d => ((((Tch.refl _ _).alloc _).alloc _).alloc _).alloc _ |>.drewN q
  have t3 : ∀ x : World, ∀ a b c, Tch [] x ((((x.alloc a).alloc b).alloc c).drewN q) := fun x a b c => (((Tch.refl _ _).alloc _).alloc _).alloc _ |>.drewN q
  have t2 : ∀ x : World, ∀ a b, Tch [] x (((x.alloc a).alloc b).drewN q) := fun x a b => ((Tch.refl _ _).alloc _).alloc _ |>.drewN q
  have t1 : ∀ x : World, ∀ a, Tch [] x ((x.alloc a).drewN q) := fun x a => (Tch.refl _ _).alloc _ |>.drewN q
  refine ⟨Tch.drewN (((((Tch.refl _ _).alloc _).alloc _).alloc _).alloc _ |>.alloc _) q, ?_, ?_, ?_, ?_, ?_⟩
  · exact (t _ _ _ _ _).obj (alloc_at rfl) (by simp)
  · refine (t3 _ _ _ _).obj (alloc_at ?_) (by simp)
    simp
  · refine (t2 _ _ _).obj (alloc_at ?_) (by simp)
    simp
  · refine (t1 _ _).obj (alloc_at ?_) (by simp)
    simp
  · refine (Tch.refl [] _ |>.drewN q).obj (alloc_at ?_) (by simp)
    simp
theorem Pos3.ts {w W : World} {gs : Nat} {o1 o2 o3 : Obj} (P : Pos3 w W gs o1 o2 o3) {gt gA gB n : Nat} {base : Int} {f g : Nat → Int} (ht : W.heap[gt]? = some (.cells #[.int .i64 base, .slice (some ⟨gA, 0, none⟩) n n, .slice (some ⟨gB, 0, none⟩) n n] 98 (0, 0)))
    (hA : W.heap[gA]? = some (.cells (arr n f) 2 (0, 0))) (hB : W.heap[gB]? = some (.cells (arr n g) 2 (0, 0))) (l1 : w.heap.size + 1 < gt) (l2 : w.heap.size < gA) (l3 : w.heap.size < gB) (ne : gA ≠ gB) :
    TS w W gs w.heap.size (w.heap.size + 1) gt gA gB n base f g :=
  ⟨P.t, by omega, by omega, by omega, by omega, P.box, P.res, ht, hA, hB, by omega, ne⟩

end Go.Proofs.Ytdofgamahjmohaa
