/- What pickCompactLevels reads of a controller; the order that it sorts by. -/
import Derived.Test.YtdofgamahjmohaaFkA
import Derived.Test.YtdofgamahjmohaaLwD
namespace Go.Proofs.Ytdofgamahjmohaa
open Go.RowKit Go.Deep
set_option maxRecDepth 100000

theorem numT_any (h n c : Nat) (a : Option Addr) (w : World) (x : w.cell? ⟨h, 0, none⟩ = some (.slice a n c)) : Calls Try.prog 70 #[ptr h] w fun e w' => e = .returned (.int .i64 n) ∧ w' = w := by
  go_enter Try.func70, Try.ntmps70
  go_wp2
  go_ret
  exact ⟨rfl, rfl⟩
theorem delSize_any (gs gC n cc l g : Nat) (d : Int) (w : World) (hl : l < n) (hn : n ≤ 7) (x : w.cell? ⟨gs, 2, none⟩ = some (.slice (some ⟨gC, 0, none⟩) n cc)) (y : w.cell? ⟨gC, l, none⟩ = some (ptr g)) (z : w.cell? ⟨g, 1, none⟩ = some (.int .i64 d)) : Calls Try.prog 71 #[.pointer (some ⟨gs, 2, none⟩), .int .i64 l] w fun e w' => e = .returned (.int .i64 d) ∧ w' = w := by
  have h1 : (l : Int) < (n : Int) := by omega
  have h2 : (n : Int) ≤ 7 := by omega
  clear hl hn
  go_enter Try.func71, Try.ntmps71
  go_wp2
  go_ret
  exact ⟨rfl, rfl⟩
theorem assert_true (w : World) : Calls Try.prog 72 #[.bool true] w fun e w' => e = .returned (.tuple #[]) ∧ w' = w := by
  go_enter Try.func72, Try.ntmps72
  go_wp2
  go_end0
  exact ⟨rfl, rfl⟩
theorem lessP_any (gV gP m c i j x y : Nat) (W : World) (hm : m ≤ 100) (hi : i < m) (hj : j < m) (hv : W.cell? ⟨gV, 0, none⟩ = some (.slice (some ⟨gP, 0, none⟩) m c)) (hx : W.cell? ⟨gP, i * 7 + 2, none⟩ = some (.float .f64 x)) (hy : W.cell? ⟨gP, j * 7 + 2, none⟩ = some (.float .f64 y)) :
    Calls Try.prog 73 #[.int .i64 i, .int .i64 j, ptr gV] W fun e w' => e = .returned (.bool (Ieee.double.order x y == some .gt)) ∧ ∃ q, w' = W.drewN q := by
  have h1 : (i : Int) < (m : Int) := by omega
  have h2 : (j : Int) < (m : Int) := by omega
  have h3 : (m : Int) ≤ 100 := by omega
  clear hm hi hj
  go_enter Try.func73, Try.ntmps73
  go_wp2_with fail
  go_quiet (fail)
  go_wp2_with fail
  go_ret
  exact ⟨rfl, _, rfl⟩

/-- What is read of a controller. -/
structure PR (w : World) (gs go gH gC n hc cc : Nat) (hb cb : Nat → Nat) (T D : Nat → Int) (a0 : Option Addr) (n0 c0 : Nat) (lt tt zt bl bt mt : Int) : Prop where
  cr : CR w gs go gH n hc hb T lt tt bl bt mt
  o3 : w.cell? ⟨go, 3, none⟩ = some (.int .i64 zt)
  s2 : w.cell? ⟨gs, 2, none⟩ = some (.slice (some ⟨gC, 0, none⟩) n cc)
  sr : ∀ j, j < n → w.cell? ⟨gC, j, none⟩ = some (ptr (cb j))
  sd : ∀ j, j < n → w.cell? ⟨cb j, 1, none⟩ = some (.int .i64 (D j))
  h0 : w.cell? ⟨hb 0, 0, none⟩ = some (.slice a0 n0 c0)
theorem PR.tch {w w' : World} {gs go gH gC n hc cc : Nat} {hb cb : Nat → Nat} {T D : Nat → Int} {a0 : Option Addr} {n0 c0 : Nat} {lt tt zt bl bt mt : Int} (h : PR w gs go gH gC n hc cc hb cb T D a0 n0 c0 lt tt zt bl bt mt) (t : Tch [] w w') : PR w' gs go gH gC n hc cc hb cb T D a0 n0 c0 lt tt zt bl bt mt :=
  ⟨h.cr.tch t, cell_tch h.o3 t, cell_tch h.s2 t, fun j hj => cell_tch (h.sr j hj) t, fun j hj => cell_tch (h.sd j hj) t, cell_tch h.h0 t⟩

end Go.Proofs.Ytdofgamahjmohaa
