/- Rows of one's own that grow, whatever they hold. -/
import Derived.Test.YtdofgamahjmohaaBase
namespace Go.Proofs.Ytdofgamahjmohaa
open Go.RowKit
set_option maxRecDepth 100000

/-- A row of the call's own: the call began in w0. -/
structure Own (w0 w : World) (e : TypeId) (sz : Nat) (v : Value) (n : Nat) (xs : List Value) : Prop where
  t : Tch [] w0 w
  row : w.ownsRow w0.heap.size e sz v n xs

theorem ownsRow_tch {w w' : World} {base : Nat} {e : TypeId} {sz : Nat} {v : Value} {n : Nat} {xs : List Value} {S : List Nat} (h : w.ownsRow base e sz v n xs) (k : Tch S w w') (hs : ∀ g, v.ownBlock = some g → g ∉ S) : w'.ownsRow base e sz v n xs := k.own h hs

theorem Own.tch {w0 w w' : World} {e : TypeId} {sz : Nat} {v : Value} {n : Nat} {xs : List Value} (h : Own w0 w e sz v n xs) (k : Tch [] w w') : Own w0 w' e sz v n xs :=
  ⟨h.t.trans k, k.own h.row (by simp)⟩

theorem Own.nil (w0 : World) (e : TypeId) (sz : Nat) : Own w0 w0 e sz (.slice none 0 0) 0 [] := ⟨Tch.refl _ _, World.ownsRow_nil _ _ _ _⟩

theorem Own.new {w0 w : World} (h : Tch [] w0 w) (e : TypeId) (sz : Nat) : Own w0 (w.alloc (.cells #[] e)) e sz (.slice (some ⟨w.heap.size, 0, none⟩) 0 0) 0 [] :=
  ⟨h.alloc _, World.ownsRow_made (size := sz) w #[] 0 h.size (Nat.zero_le _) (by simp)⟩

theorem Own.slice {w0 w : World} {e : TypeId} {sz : Nat} {v : Value} {n : Nat} {xs : List Value} (h : Own w0 w e sz v n xs) : ∃ a c, v = .slice a n c ∧ n ≤ c ∧ (a = none → c = 0 ∧ n = 0) ∧ ∀ ad, a = some ad → ad = ⟨ad.block, 0, none⟩ ∧ w0.heap.size ≤ ad.block ∧ ad.block < w.heap.size := by
  obtain ⟨hl, ⟨rfl, rfl⟩ | ⟨g, cap, cur, rfl, hb, hc, hn, -, -, -⟩⟩ := h.row
  · exact ⟨none, 0, rfl, Nat.le_refl _, fun _ => ⟨rfl, rfl⟩, fun ad h => by simp at h⟩
  · refine ⟨some ⟨g, 0, none⟩, cap, rfl, hn, fun h => by simp at h, fun ad h => ?_⟩
    obtain rfl := Option.some.inj h
    exact ⟨rfl, hb, lt_of_obj hc⟩

theorem own_cell {w : World} {base : Nat} {e : TypeId} {sz : Nat} {a : Addr} {n c : Nat} {xs : List Value} (h : w.ownsRow base e sz (.slice (some a) n c) n xs) {j : Nat} {u : Value} (hj : xs[j]? = some u) : a.block < w.heap.size ∧ w.cell? (a.add j) = some u := by
  obtain ⟨hl, ⟨h, -⟩ | ⟨g, cap, cur, h, hb, hc, hn, -, hcs, ht⟩⟩ := h
  · simp at h
  · obtain ⟨rfl, rfl⟩ : a = ⟨g, 0, none⟩ ∧ c = cap := by simpa using h
    refine ⟨lt_of_obj hc, ?_⟩
    have e1 : (⟨g, 0, none⟩ : Addr).add j = ⟨g, j, none⟩ := by unfold Addr.add; split <;> simp_all
    rw [e1, cell_of_row w g j cur e (0, 0) hc]
    rw [← ht, List.getElem?_take] at hj
    split at hj
    · simpa using hj
    · simp at hj

/-- append of one element. -/
theorem own_app {t e ty : TypeId} {i0 : TypeInfo} {z : Value} {sz bytes : Nat} (u : Try.prog.underlying t = some (.slice e)) (hi : Try.prog.info? e = some i0) (hz : i0.zero = some z) (hsz : i0.size = sz) (hby : i0.bytes = bytes) (hzs : z.cells.size = sz) (hpos : 0 < sz) (hb : bytes ≤ 1000)
    {w0 w : World} {v : Value} {n : Nat} {xs : List Value} (new : Array Value) (h : Own w0 w e sz v n xs) (hn : n ≤ 100000000) (hs : new.size = sz) (h1 : ∀ x ∈ new.toList, x.oneCell' = true) :
    ∃ v' w', (Builtin.append_ #[t, t] ty #[v, .slice (some ⟨w.heap.size, 0, none⟩) 1 1]).run Try.prog (w.alloc (.cells new e)) = .ok v' w' ∧
      ∃ g c, v' = .slice (some ⟨g, 0, none⟩) (n + 1) c ∧ Own w0 w' e sz (.slice (some ⟨g, 0, none⟩) (n + 1) c) (n + 1) (xs ++ new.toList) ∧ w.heap.size ≤ w'.heap.size ∧
        (∀ k, k < w.heap.size → some k ≠ v.ownBlock → w'.heap[k]? = w.heap[k]?) ∧ Tch v.ownBlock.toList w w' ∧ (some g = v.ownBlock ∨ w.heap.size < g) := by
  have hb2 : (n + 1) * bytes ≤ 140737488355328 := Nat.le_trans (Nat.mul_le_mul (show n + 1 ≤ 100000001 by omega) hb) (by omega)
  have hls : new.toList.length = sz := by rw [Array.length_toList]; exact hs
  obtain ⟨v', w', hrun, ho, hg, -, hloc⟩ := run_append_own_at (P := Try.prog) (w := w.alloc (.cells new e)) w0.heap.size t ty e i0 z sz bytes u hi hz hsz hby hzs hpos v n xs (h.row.alloc _) ⟨w.heap.size, 0, none⟩ 1 1 new.toList (by rw [hls]; omega) (fun j x hx => by
    have e1 : (⟨w.heap.size, 0, none⟩ : Addr).add j = ⟨w.heap.size, j, none⟩ := by unfold Addr.add; split <;> simp_all
    rw [e1, cell_of_row _ _ j new e (0, 0) (heap_alloc_new w _)]
    simpa using hx) h1 (by unfold maxLen; omega) hb2 (by have := h.t.size; rw [show (w.alloc (.cells new e)).heap.size = w.heap.size + 1 from by simp]; omega)
  obtain ⟨g', c', rfl, -⟩ := ownsRow_value ho (by omega)
  have hsz2 : (w.alloc (.cells new e)).heap.size = w.heap.size + 1 := by simp
  have hkeep : ∀ k, k < w.heap.size → some k ≠ v.ownBlock → w'.heap[k]? = w.heap[k]? := fun k hk hv => by
    rw [hg.block k (by rw [hsz2]; omega) hv, heap_get_alloc, if_neg (by omega)]
  have hle : w.heap.size ≤ w'.heap.size := Nat.le_trans (by rw [hsz2]; omega) hg.size
  have hT : Tch v.ownBlock.toList w w' := ⟨hg.os, hg.output, hle, fun k hk hk2 => hkeep k hk (by simpa [Option.mem_toList, eq_comm] using hk2)⟩
  have hT0 : Tch [] w0 w' := ⟨hT.os.trans h.t.os, hT.output.trans h.t.output, Nat.le_trans h.t.size hle, fun k hk _ => by
    rw [hkeep k (Nat.lt_of_lt_of_le hk h.t.size) (fun ev => by have := (h.row.lt k ev.symm).1; omega), h.t.block k hk (by simp)]⟩
  refine ⟨_, w', hrun, g', c', rfl, ⟨hT0, ho⟩, hle, hkeep, hT, ?_⟩
  rcases hloc with hl | hl
  · exact .inl hl
  · have hl : g' = (w.alloc (.cells new e)).heap.size := by simpa [Value.ownBlock] using hl
    exact .inr (by rw [hl, hsz2]; omega)

end Go.Proofs.Ytdofgamahjmohaa
