/- The package's tables and handlers: what small functions read; the orders by which tables are sorted. -/
import Derived.Test.YtdofgamahjmohaaLvN
import Derived.Test.YtdofgamahjmohaaShelf
import Derived.BigQuiet
namespace Go.Proofs.Ytdofgamahjmohaa
open Go.Shelf Go.RowKit Go.Lib Go.Sort
set_option maxRecDepth 100000

/-- A table of the package in a box of its own. -/
structure PtBox (w : World) (g : Nat) (t : Tb) : Prop where
  out : ∃ g1 g2, w.heap[g]? = some (.cells (ptL (t, g1, g2)).toArray 94 (0, 0)) ∧ KeyRow w t.k1 g1 ∧ KeyRow w t.k2 g2
theorem PtBox.tch {w w' : World} {g : Nat} {t : Tb} (h : PtBox w g t) (k : Tch [] w w') : PtBox w' g t := by
  obtain ⟨g1, g2, h1, h2, h3⟩ := h.out
  exact ⟨g1, g2, k.obj h1 (by simp), h2.tch k, h3.tch k⟩

theorem pt_cells {w : World} {g g1 g2 : Nat} {num : Int} {t1 : Bool} {l1 : List Int} {v1 : Int} {t2 : Bool} {l2 : List Int} {v2 bytes ver stale age : Int} (h : w.heap[g]? = some (.cells (ptL (⟨num, t1, ⟨l1, v1⟩, t2, ⟨l2, v2⟩, bytes, ver, stale, age⟩, g1, g2)).toArray 94 (0, 0))) :
    w.cell? ⟨g, 0, none⟩ = some (.int .u64 num) ∧ w.cell? ⟨g, 1, none⟩ = some (keyV g1 l1.length (l1.length + 8)) ∧ w.cell? ⟨g, 2, none⟩ = some (keyV g2 l2.length (l2.length + 8)) ∧ w.cell? ⟨g, 3, none⟩ = some (.int .i64 bytes) ∧ w.cell? ⟨g, 4, none⟩ = some (.int .u64 ver) ∧ w.cell? ⟨g, 5, none⟩ = some (.int .u32 stale) ∧ w.cell? ⟨g, 6, none⟩ = some (.int .i64 age) := by
  refine ⟨?_, ?_, ?_, ?_, ?_, ?_, ?_⟩
  all_goals (rw [cell_of_row w _ _ _ 94 (0, 0) h]; rfl)

theorem id_any (g : Nat) (t : Tb) (w : World) (h : PtBox w g t) : Calls Try.prog 67 #[ptr g] w fun e w' => e = .returned (.int .u64 t.num) ∧ w' = w := by
  obtain ⟨num, t1, ⟨l1, v1⟩, t2, ⟨l2, v2⟩, bytes, ver, stale, age⟩ := t
  obtain ⟨g1, g2, h1, -, -⟩ := h.out
  obtain ⟨x0, x1, x2, x3, x4, x5, x6⟩ := pt_cells h1
  clear h h1
  go_enter Try.func67, Try.ntmps67
  go_wp2
  go_ret
  exact ⟨rfl, rfl⟩
theorem size_any (g : Nat) (t : Tb) (w : World) (h : PtBox w g t) : Calls Try.prog 76 #[ptr g] w fun e w' => e = .returned (.int .i64 t.bytes) ∧ w' = w := by
  obtain ⟨num, t1, ⟨l1, v1⟩, t2, ⟨l2, v2⟩, bytes, ver, stale, age⟩ := t
  obtain ⟨g1, g2, h1, -, -⟩ := h.out
  obtain ⟨x0, x1, x2, x3, x4, x5, x6⟩ := pt_cells h1
  clear h h1
  go_enter Try.func76, Try.ntmps76
  go_wp2
  go_ret
  exact ⟨rfl, rfl⟩
theorem stale_any (g : Nat) (t : Tb) (w : World) (h : PtBox w g t) : Calls Try.prog 77 #[ptr g] w fun e w' => e = .returned (.int .u32 t.stale) ∧ w' = w := by
  obtain ⟨num, t1, ⟨l1, v1⟩, t2, ⟨l2, v2⟩, bytes, ver, stale, age⟩ := t
  obtain ⟨g1, g2, h1, -, -⟩ := h.out
  obtain ⟨x0, x1, x2, x3, x4, x5, x6⟩ := pt_cells h1
  clear h h1
  go_enter Try.func77, Try.ntmps77
  go_wp2
  go_ret
  exact ⟨rfl, rfl⟩
/-- Smallest and Biggest: the slices of the keys. -/
theorem smallest_any (g g1 g2 : Nat) (t : Tb) (w : World) (h : w.heap[g]? = some (.cells (ptL (t, g1, g2)).toArray 94 (0, 0))) : Calls Try.prog 60 #[ptr g] w fun e w' => e = .returned (keyV g1 t.k1.key.length (t.k1.key.length + 8)) ∧ w' = w := by
  obtain ⟨num, t1, ⟨l1, v1⟩, t2, ⟨l2, v2⟩, bytes, ver, stale, age⟩ := t
  obtain ⟨x0, x1, x2, x3, x4, x5, x6⟩ := pt_cells h
  clear h
  go_enter Try.func60, Try.ntmps60
  go_wp2
  go_ret
  exact ⟨rfl, rfl⟩
theorem biggest_any (g g1 g2 : Nat) (t : Tb) (w : World) (h : w.heap[g]? = some (.cells (ptL (t, g1, g2)).toArray 94 (0, 0))) : Calls Try.prog 58 #[ptr g] w fun e w' => e = .returned (keyV g2 t.k2.key.length (t.k2.key.length + 8)) ∧ w' = w := by
  obtain ⟨num, t1, ⟨l1, v1⟩, t2, ⟨l2, v2⟩, bytes, ver, stale, age⟩ := t
  obtain ⟨x0, x1, x2, x3, x4, x5, x6⟩ := pt_cells h
  clear h
  go_enter Try.func58, Try.ntmps58
  go_wp2
  go_ret
  exact ⟨rfl, rfl⟩

/-- A handler's cells. -/
structure HCells (w : World) (h : Nat) (A : Option Addr) (n c : Nat) (tot stl lvl : Int) (op : Value) : Prop where
  out : w.heap[h]? = some (.cells #[.slice A n c, .int .i64 tot, .int .i64 stl, .int .i64 lvl, op] 123 (0, 0))
theorem HCells.c {w : World} {h : Nat} {A : Option Addr} {n c : Nat} {tot stl lvl : Int} {op : Value} (k : HCells w h A n c tot stl lvl op) :
    w.cell? ⟨h, 0, none⟩ = some (.slice A n c) ∧ w.cell? ⟨h, 1, none⟩ = some (.int .i64 tot) ∧ w.cell? ⟨h, 2, none⟩ = some (.int .i64 stl) ∧ w.cell? ⟨h, 3, none⟩ = some (.int .i64 lvl) ∧ w.cell? ⟨h, 4, none⟩ = some op := by
  refine ⟨?_, ?_, ?_, ?_, ?_⟩
  all_goals (rw [cell_of_row w _ _ _ 123 (0, 0) k.out]; rfl)
theorem total_any (h : Nat) (A : Option Addr) (n c : Nat) (tot stl lvl : Int) (op : Value) (w : World) (k : HCells w h A n c tot stl lvl op) : Calls Try.prog 55 #[ptr h] w fun e w' => e = .returned (.int .i64 tot) ∧ w' = w := by
  obtain ⟨x0, x1, x2, x3, x4⟩ := k.c
  clear k
  go_enter Try.func55, Try.ntmps55
  go_wp2
  go_ret
  exact ⟨rfl, rfl⟩
theorem numTables_any (h : Nat) (A : Option Addr) (n c : Nat) (tot stl lvl : Int) (op : Value) (w : World) (k : HCells w h A n c tot stl lvl op) : Calls Try.prog 70 #[ptr h] w fun e w' => e = .returned (.int .i64 n) ∧ w' = w := by
  obtain ⟨x0, x1, x2, x3, x4⟩ := k.c
  clear k
  go_enter Try.func70, Try.ntmps70
  go_wp2
  go_ret
  exact ⟨rfl, rfl⟩

/-- The closure by which the tables of level 0 are sorted. -/
theorem less0_any (bx h blk n c i j : Nat) (gi gj : Nat) (ti tj : Tb) (tot stl lvl : Int) (op : Value) (w : World) (hb : w.cell? ⟨bx, 0, none⟩ = some (ptr h)) (hh : HCells w h (some ⟨blk, 0, none⟩) n c tot stl lvl op) (hi : i < n) (hj : j < n)
    (ci : w.cell? ⟨blk, i, none⟩ = some (ptr gi)) (cj : w.cell? ⟨blk, j, none⟩ = some (ptr gj)) (bi : PtBox w gi ti) (bj : PtBox w gj tj) :
    Calls Try.prog 66 #[.int .i64 i, .int .i64 j, ptr bx] w fun e w' => e = .returned (.bool (decide (ti.num < tj.num))) ∧ ∃ q, w' = w.drewN q := by
  obtain ⟨x0, x1, x2, x3, x4⟩ := hh.c
  have HI := Lib.hid (fun m => id_any gi ti (w.drewN m) (bi.tch ((Tch.refl _ _).drewN m)))
  have HJ := Lib.hid (fun m => id_any gj tj (w.drewN m) (bj.tch ((Tch.refl _ _).drewN m)))
  have hi2 : (i : Int) < n := by omega
  have hj2 : (j : Int) < n := by omega
  clear hh bi bj hi hj
  go_enter Try.func66, Try.ntmps66
  go_wp2_with fail
  go_quiet (first | (go_at_call 67; first | exact Calls.quiet_of_same (HI.out _) | exact Calls.quiet_of_same (HJ.out _)))
  go_wp2_with fail
  go_ret
  exact ⟨rfl, _, rfl⟩

/-- What is known of a table, in whatever world. -/
structure Tb.good (t : Tb) : Prop where
  ok : TbOk t
  short : t.short
  u1 : ∀ x ∈ t.k1.key, 0 ≤ x ∧ x < 256
  u2 : ∀ x ∈ t.k2.key, 0 ≤ x ∧ x < 256
theorem KeyRow.at {w : World} {k : Kv} {g : Nat} (h : KeyRow w k g) (hu : ∀ x ∈ k.key, 0 ≤ x ∧ x < 256) (hv : okV k.ver) : KeyAt w k g (k.key.length + 8) := KeyOut.at h hu hv

/-- The closure by which the tables of the other levels are sorted. -/
theorem less1_any (bx h blk n c i j : Nat) (gi gj : Nat) (ti tj : Tb) (tot stl lvl : Int) (op : Value) (w : World) (hb : w.cell? ⟨bx, 0, none⟩ = some (ptr h)) (hh : HCells w h (some ⟨blk, 0, none⟩) n c tot stl lvl op) (hi : i < n) (hj : j < n)
    (ci : w.cell? ⟨blk, i, none⟩ = some (ptr gi)) (cj : w.cell? ⟨blk, j, none⟩ = some (ptr gj)) (bi : PtBox w gi ti) (bj : PtBox w gj tj) (ki : ti.good) (kj : tj.good) :
    Calls Try.prog 68 #[.int .i64 i, .int .i64 j, ptr bx] w fun e w' => e = .returned (.bool (decide (kcmp ti.k1 tj.k1 < 0))) ∧ ∃ q, w' = w.drewN q := by
  obtain ⟨x0, x1, x2, x3, x4⟩ := hh.c
  obtain ⟨gi1, gi2, bi1, bi2, -⟩ := bi.out
  obtain ⟨gj1, gj2, bj1, bj2, -⟩ := bj.out
  have HI := Lib.hid (fun m => smallest_any gi gi1 gi2 ti (w.drewN m) (((Tch.refl [] w).drewN m).obj bi1 (by simp)))
  have HJ := Lib.hid (fun m => smallest_any gj gj1 gj2 tj (w.drewN m) (((Tch.refl [] w).drewN m).obj bj1 (by simp)))
  have HC := Lib.hid (fun m => compareKeys_any ti.k1 tj.k1 gi1 _ gj1 _ (w.drewN m) ki.short.1 kj.short.1 ((bi2.tch ((Tch.refl _ _).drewN m)).at ki.u1 ki.ok.v1) ((bj2.tch ((Tch.refl _ _).drewN m)).at kj.u1 kj.ok.v1))
  have hi2 : (i : Int) < n := by omega
  have hj2 : (j : Int) < n := by omega
  generalize kcmp ti.k1 tj.k1 = x at *
  clear hh bi bj hi hj ki kj bi1 bi2 bj1 bj2
  go_enter Try.func68, Try.ntmps68
  go_wp2_with fail
  go_quiet (first
    | (go_at_call 60; first | exact Calls.quiet_of_same (HI.out _) | exact Calls.quiet_of_same (HJ.out _))
    | (go_at_call 50; exact (HC.out _).mono (fun e w' h => ⟨h.1, dq_join h.2⟩)))
  go_wp2_with fail
  go_ret
  exact ⟨rfl, _, rfl⟩

end Go.Proofs.Ytdofgamahjmohaa
