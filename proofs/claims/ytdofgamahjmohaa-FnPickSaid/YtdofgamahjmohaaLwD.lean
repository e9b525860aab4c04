/- levelTargets: what it reads, and the small functions that it calls. -/
import Derived.Test.YtdofgamahjmohaaLwP
namespace Go.Proofs.Ytdofgamahjmohaa
open Go.RowKit
set_option maxRecDepth 100000

/-- What is read of a controller: its levels' totals and its options. -/
structure CR (w : World) (gs go : Nat) (gH : Nat) (n hc : Nat) (hb : Nat → Nat) (T : Nat → Int) (lt tt bl bt mt : Int) : Prop where
  b1 : gs < w.heap.size
  b2 : go < w.heap.size
  b3 : gH < w.heap.size
  b4 : ∀ j, j < n → hb j < w.heap.size
  s0 : w.cell? ⟨gs, 0, none⟩ = some (.slice (some ⟨gH, 0, none⟩) n hc)
  s1 : w.cell? ⟨gs, 1, none⟩ = some (ptr go)
  o1 : w.cell? ⟨go, 1, none⟩ = some (.int .i64 lt)
  o2 : w.cell? ⟨go, 2, none⟩ = some (.int .i64 tt)
  o4 : w.cell? ⟨go, 4, none⟩ = some (.int .i64 bl)
  o5 : w.cell? ⟨go, 5, none⟩ = some (.int .i64 bt)
  o6 : w.cell? ⟨go, 6, none⟩ = some (.int .i64 mt)
  row : ∀ j, j < n → w.cell? ⟨gH, j, none⟩ = some (ptr (hb j))
  tot : ∀ j, j < n → w.cell? ⟨hb j, 1, none⟩ = some (.int .i64 (T j))

theorem CR.tch {w w' : World} {gs go : Nat} {gH : Nat} {n hc : Nat} {hb : Nat → Nat} {T : Nat → Int} {lt tt bl bt mt : Int} (h : CR w gs go gH n hc hb T lt tt bl bt mt) (t : Tch [] w w') : CR w' gs go gH n hc hb T lt tt bl bt mt := by
  have k1 : ∀ i, w'.cell? ⟨gs, i, none⟩ = w.cell? ⟨gs, i, none⟩ := fun i => t.cell h.b1 (by simp)
  have k2 : ∀ i, w'.cell? ⟨go, i, none⟩ = w.cell? ⟨go, i, none⟩ := fun i => t.cell h.b2 (by simp)
  exact ⟨Nat.lt_of_lt_of_le h.b1 t.size, Nat.lt_of_lt_of_le h.b2 t.size, Nat.lt_of_lt_of_le h.b3 t.size, fun j hj => Nat.lt_of_lt_of_le (h.b4 j hj) t.size, by rw [k1]; exact h.s0, by rw [k1]; exact h.s1, by rw [k2]; exact h.o1, by rw [k2]; exact h.o2, by rw [k2]; exact h.o4, by rw [k2]; exact h.o5, by rw [k2]; exact h.o6,
    fun j hj => by rw [t.cell h.b3 (by simp)]; exact h.row j hj, fun j hj => by rw [t.cell (h.b4 j hj) (by simp)]; exact h.tot j hj⟩

/-- A handler's size. -/
theorem total_cell (h : Nat) (v : Int) (w : World) (x : w.cell? ⟨h, 1, none⟩ = some (.int .i64 v)) : Calls Try.prog 55 #[ptr h] w fun e w' => e = .returned (.int .i64 v) ∧ w' = w := by
  go_enter Try.func55, Try.ntmps55
  go_wp2
  go_ret
  exact ⟨rfl, rfl⟩

/-- The closure that takes the least size. -/
theorem adjust_any (bx gs go : Nat) (bl sz : Int) (w : World) (h0 : w.cell? ⟨bx, 0, none⟩ = some (ptr gs)) (h1 : w.cell? ⟨gs, 1, none⟩ = some (ptr go)) (h2 : w.cell? ⟨go, 4, none⟩ = some (.int .i64 bl)) :
    Calls Try.prog 53 #[.int .i64 sz, ptr bx] w fun e w' => e = .returned (.int .i64 (if sz < bl then bl else sz)) ∧ w' = w := by
  by_cases hc : sz < bl
  · have h3 : decide (sz < bl) = true := by simpa using hc
    rw [if_pos hc]
    clear hc
    go_enter Try.func53, Try.ntmps53
    go_wp2
    go_ret
    exact ⟨rfl, rfl⟩
  · have h3 : decide (sz < bl) = false := by simpa using hc
    rw [if_neg hc]
    clear hc
    go_enter Try.func53, Try.ntmps53
    go_wp2
    go_ret
    exact ⟨rfl, rfl⟩

/-- The last level's handler. -/
theorem lastLevel_any (gs : Nat) (gH : Nat) (m hc hl : Nat) (w : World) (hm : m ≤ 1000) (h0 : w.cell? ⟨gs, 0, none⟩ = some (.slice (some ⟨gH, 0, none⟩) (m + 1) hc)) (h1 : w.cell? ⟨gH, m, none⟩ = some (ptr hl)) :
    Calls Try.prog 54 #[ptr gs] w fun e w' => e = .returned (ptr hl) ∧ ∃ q, w' = w.drewN q := by
  go_enter Try.func54, Try.ntmps54
  go_wp2_with fail
  go_quiet (fail)
  go_wp2_with fail
  go_ret
  exact ⟨rfl, _, rfl⟩

end Go.Proofs.Ytdofgamahjmohaa
