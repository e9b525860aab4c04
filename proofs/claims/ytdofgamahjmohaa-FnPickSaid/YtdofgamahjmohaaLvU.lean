/- (*levelHandler).initTables. -/
import Derived.Test.YtdofgamahjmohaaLvT
namespace Go.Proofs.Ytdofgamahjmohaa
open Go.Shelf Go.RowKit
set_option maxRecDepth 100000

theorem wrapI {v : Int} (h1 : -9223372036854775808 ≤ v) (h2 : v ≤ 9223372036854775807) : IntKind.i64.wrap v = v := by
  simp only [IntKind.wrap, IntKind.bits, IntKind.signed]
  simp
  omega

theorem HCells.set {w : World} {h : Nat} {A : Option Addr} {n c : Nat} {tot stl lvl : Int} {op : Value} (k : HCells w h A n c tot stl lvl op) (i : Nat) (v : Value) :
    (w.setCell ⟨h, i, none⟩ v).heap[h]? = some (.cells (#[.slice A n c, .int .i64 tot, .int .i64 stl, .int .i64 lvl, op].setIfInBounds i v) 123 (0, 0)) := heap_setCell_same w h i _ _ v k.out

set_option maxHeartbeats 1000000 in
theorem addSize_any (h g : Nat) (t : Tb) (A : Option Addr) (n c : Nat) (tot stl lvl : Int) (op : Value) (w : World) (hh : HCells w h A n c tot stl lvl op) (hb : PtBox w g t) (k : t.good) (f : t.fine)
    (b1 : 0 ≤ tot) (b2 : tot ≤ 1152921504606846976) (b3 : 0 ≤ stl) (b4 : stl ≤ 1152921504606846976) :
    Calls Try.prog 64 #[ptr h, ptr g] w fun e w' => e = .returned (.tuple #[]) ∧ HCells w' h A n c (tot + t.bytes) (stl + t.stale) lvl op ∧ Tch [h] w w' := by
  have hf := f
  have hst := k.ok.stale
  unfold Tb.fine at hf
  unfold okU32 at hst
  have hw1 := wrapI (v := tot + t.bytes) (by omega) (by omega)
  have hw2 := wrapI (v := t.stale) (by omega) (by omega)
  have hw3 := wrapI (v := stl + t.stale) (by omega) (by omega)
  obtain ⟨x0, x1, x2, x3, x4⟩ := hh.c
  have e1 : ∀ w' : World, w'.heap = w.heap → ∀ u v : Value, u = .int .i64 (tot + t.bytes) → v = .int .i64 (stl + t.stale) → HCells ((w'.setCell ⟨h, 1, none⟩ u).setCell ⟨h, 2, none⟩ v) h A n c (tot + t.bytes) (stl + t.stale) lvl op := by
    intro w' hw u v hu hv
    subst hu; subst hv
    have k0 : HCells w' h A n c tot stl lvl op := ⟨by rw [hw]; exact hh.out⟩
    have k1 : HCells (w'.setCell ⟨h, 1, none⟩ (.int .i64 (tot + t.bytes))) h A n c (tot + t.bytes) stl lvl op := ⟨by rw [k0.set]; rfl⟩
    exact ⟨by rw [k1.set]; rfl⟩
  have HE := Lib.hid e1
  have ne : PtBox (w.setCell ⟨h, 1, none⟩ (.int .i64 (tot + t.bytes))) g t := by
    obtain ⟨g1, g2, h1, h2, h3⟩ := hb.out
    have tt : Tch [h] w (w.setCell ⟨h, 1, none⟩ (.int .i64 (tot + t.bytes))) := (Tch.refl _ _).setCell (p := ⟨h, 1, none⟩) (fun _ => by simp) _
    have hS : ∀ b ∈ [h], ∃ cur fr, w.heap[b]? = some (.cells cur 123 fr) := fun b hm => by
      obtain rfl := List.mem_singleton.1 hm
      exact ⟨_, _, hh.out⟩
    refine ⟨g1, g2, tt.obj h1 (fun hm => ?_), row_keep h2 tt hS (by decide), row_keep h3 tt hS (by decide)⟩
    obtain rfl := List.mem_singleton.1 hm
    exact absurd rfl (cells_ne h1 hh.out (by decide))
  have HS := Lib.hid (fun (w' : World) (q : Tch [] w w') => size_any g t w' (hb.tch q))
  have HT := Lib.hid (fun (w' : World) (q : Tch [] (w.setCell ⟨h, 1, none⟩ (.int .i64 (tot + t.bytes))) w') => stale_any g t w' (ne.tch q))
  have fz : ∀ i, w.frozen? ⟨h, i, none⟩ = false := fun i => by
    have := hh.out
    simp only [World.frozen?, this]
    first | rfl | simp
  have f1 := fz 1
  have f2 := fz 2
  clear fz
  generalize t.bytes = by_ at *
  generalize t.stale = st_ at *
  clear hh hb k f hf hst ne b1 b2 b3 b4
  go_enter Try.func64, Try.ntmps64
  go_upto_region 0 with fail
  go_region_with (go_at_call 76; refine (HS.out _ ?_).mono ?_; (repeat (first | exact Tch.refl _ _ | refine Tch.drew ?_ | refine Tch.drewN ?_ _)); rintro e w9 ⟨rfl, rfl⟩)
  all_goals (try go_wp2_with fail)
  all_goals (go_region_with (go_at_call 77; refine (HT.out _ ?_).mono ?_; (repeat (first | exact Tch.refl _ _ | refine Tch.drew ?_ | refine Tch.drewN ?_ _)); rintro e w9 ⟨rfl, rfl⟩))
  all_goals (try go_wp2_with fail)
  all_goals go_end0
  all_goals exact ⟨rfl, ⟨(HE.out w rfl _ _ rfl rfl).out⟩, (((Tch.refl _ _).setCell (p := ⟨h, 1, none⟩) (fun _ => by simp) _).setCell (p := ⟨h, 2, none⟩) (fun _ => by simp) _).drew.drew⟩

/-- None or one table: nothing turns. -/
theorem sort_tiny (W : World) (p : Option Addr) (n c : Nat) (h1 : n ≤ 1) (lf : Fn) (lb : Array Value) :
    Calls Try.prog 65 #[.iface 121 (.slice p n c), .func lf #[] lb] W fun e w' => e = .returned (.tuple #[]) ∧ Tch [] W w' := by
  have hK : Lib.swapperK n siE 22 = n + 1 := by
    rcases Nat.eq_zero_or_pos n with h | h
    · subst h; simp [Lib.swapperK]
    · obtain rfl : n = 1 := by omega
      simp [Lib.swapperK]
  have hS := Any.sort_Slice_tiny Try.laysGg6 121 124 siT siE siT_eq (by kernel_rfl) (by kernel_rfl) siE_eq 22 (fun _ => by kernel_rfl) p n c h1 (83 + n) (by
    rw [hK]
    rcases Nat.eq_zero_or_pos n with h | h
    · subst h; kernel_rfl
    · obtain rfl : n = 1 := by omega
      kernel_rfl) lf #[] lb W
  refine hS.mono ?_
  rintro e w' ⟨rfl, os, rfl⟩
  exact ⟨rfl, grow_tch W 0 os⟩

def tsum (f : Tb → Int) (ts : List Tb) : Int := (ts.map f).sum

end Go.Proofs.Ytdofgamahjmohaa
