/- Blocks of different types, and what stays where only some are written. -/
import Derived.Test.YtdofgamahjmohaaLvZ
namespace Go.Proofs.Ytdofgamahjmohaa
open Go.RowKit
set_option maxRecDepth 100000

/-- Blocks of S bear no row of this type. -/
def Sep (w : World) (S : List Nat) (e : TypeId) : Prop := ∀ g ∈ S, ∃ o, w.heap[g]? = some o ∧ ∀ cur fr, o ≠ .cells cur e fr
theorem sep_row {w : World} {base : Nat} {e e' : TypeId} {sz : Nat} {v : Value} {n : Nat} {xs : List Value} (h : w.ownsRow base e sz v n xs) (hne : e ≠ e') : Sep w v.ownBlock.toList e' := fun g hg => by
  obtain ⟨cur, h1⟩ := ownsRow_block h (by simpa [Option.mem_toList] using hg : v.ownBlock = some g)
  exact ⟨_, h1, fun cur fr e => by simp at e; exact hne e.2.1⟩
theorem sep_obj {w : World} {g : Nat} {cs : Array Value} {e e' : TypeId} {fr : Nat × Nat} (h : w.heap[g]? = some (.cells cs e fr)) (hne : e ≠ e') : Sep w [g] e' := fun k hk => by
  obtain rfl := List.mem_singleton.1 hk
  exact ⟨_, h, fun cur fr e => by simp at e; exact hne e.2.1⟩
theorem ownsRow_off {w w' : World} {base : Nat} {e : TypeId} {sz : Nat} {v : Value} {n : Nat} {xs : List Value} {S : List Nat} (h : w.ownsRow base e sz v n xs) (t : Tch S w w') (hS : Sep w S e) : w'.ownsRow base e sz v n xs :=
  ownsRow_tch h t (fun g hg hm => by
    obtain ⟨cur, h1⟩ := ownsRow_block h hg
    obtain ⟨o, h2, h3⟩ := hS g hm
    rw [h1] at h2
    exact h3 cur (0, 0) (Option.some.inj h2).symm)
/-- What came in stays, where only blocks that are new were written. -/
theorem tch_new {w w1 w' : World} {S : List Nat} (t : Tch [] w w1) (k : Tch S w1 w') (hS : ∀ g ∈ S, w.heap.size ≤ g) : Tch [] w w' :=
  ⟨k.os.trans t.os, k.output.trans t.output, Nat.le_trans t.size k.size, fun g hg _ => by
    rw [k.block g (Nat.lt_of_lt_of_le hg t.size) (fun hm => by have := hS g hm; omega), t.block g hg (by simp)]⟩
theorem own_new {w wr : World} {e : TypeId} {sz : Nat} {v : Value} {n : Nat} {xs : List Value} (h : Own w wr e sz v n xs) : ∀ g ∈ v.ownBlock.toList, w.heap.size ≤ g := fun g hg =>
  (h.row.lt g (by simpa [Option.mem_toList] using hg)).1

theorem obj_off {w w' : World} {S : List Nat} {b : Nat} {cs : Array Value} {e : TypeId} {fr : Nat × Nat} (h : w.heap[b]? = some (.cells cs e fr)) (t : Tch S w w') (hS : Sep w S e) : w'.heap[b]? = some (.cells cs e fr) :=
  t.obj h (fun hm => let ⟨_, h1, h2⟩ := hS _ hm; h2 _ _ (Option.some.inj (h1.symm.trans h)))
theorem frozen_of {w : World} {b j : Nat} {cs : Array Value} {t : TypeId} (h : w.heap[b]? = some (.cells cs t (0, 0))) : w.frozen? ⟨b, j, none⟩ = false := by
  simp only [World.frozen?, h]
  first | rfl | simp | (simp; omega)


theorem ownsRow_low {w : World} {base base' : Nat} {e : TypeId} {sz : Nat} {v : Value} {n : Nat} {xs : List Value} (h : w.ownsRow base e sz v n xs) (hb : base' ≤ base) : w.ownsRow base' e sz v n xs := by
  refine ⟨h.1, ?_⟩
  rcases h.2 with h | ⟨g, cap, cur, h1, h2, h3⟩
  · exact .inl h
  · exact .inr ⟨g, cap, cur, h1, Nat.le_trans hb h2, h3⟩
theorem cell_tch {w w' : World} {p : Addr} {v : Value} (h : w.cell? p = some v) (t : Tch [] w w') : w'.cell? p = some v := by
  rw [t.cell (World.block_lt_of_cell? w _ h) (by simp)]
  exact h
theorem tt_cells {w : World} {g : Nat} {v0 v1 v2 : Value} {e : TypeId} (h : w.heap[g]? = some (.cells #[v0, v1, v2] e (0, 0))) : w.cell? ⟨g, 0, none⟩ = some v0 ∧ w.cell? ⟨g, 1, none⟩ = some v1 ∧ w.cell? ⟨g, 2, none⟩ = some v2 :=
  ⟨by rw [cell_of_row w g 0 _ _ _ h]; rfl, by rw [cell_of_row w g 1 _ _ _ h]; rfl, by rw [cell_of_row w g 2 _ _ _ h]; rfl⟩
theorem store_float (a : Addr) (x : Nat) (m : Mode) (w : World) : (store a (.float .f64 x) m).run Try.prog w = stored Try.prog w a (.float .f64 x) m := run_store Try.prog w a _ m rfl

end Go.Proofs.Ytdofgamahjmohaa
