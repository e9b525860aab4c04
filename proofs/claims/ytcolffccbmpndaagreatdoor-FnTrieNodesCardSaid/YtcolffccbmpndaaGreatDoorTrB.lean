/- Bytes in memory beside a trie; paths of prefixes with holes. -/
import Derived.Test.YtcolffccbmpndaaGreatDoorTrL
import Derived.Test.YtcolffccbmpndaaGreatDoorIgS
namespace Go.Proofs.YtcolffccbmpndaaGreatDoor
open Go.RowKit
set_option maxRecDepth 100000

/-- Bytes in memory, as a slice. -/
structure By (w : World) (l : List Int) (a : Option Addr) (c : Nat) : Prop where
  cap : l.length ≤ c
  nil : a = none → c = 0 ∧ l = []
  cell : ∀ ad, a = some ad → ∀ j, j < l.length → ad.block < w.heap.size ∧ w.cell? (ad.add j) = some (.int .u8 (l.getD j 0))
  u8 : ∀ x ∈ l, 0 ≤ x ∧ x < 256

theorem cell_tof {F : Nat → Prop} {w w' : World} {p : Addr} {v : Value} (h : w.cell? p = some v) (t : Tof F w w') (hf : ¬ F p.block) : w'.cell? p = some v := by
  rw [World.cell?_of_block (w := w) (t.block p.block (World.block_lt_of_cell? w _ h) hf)]
  exact h
theorem By.tof {F : Nat → Prop} {w w' : World} {l : List Int} {a : Option Addr} {c : Nat} (h : By w l a c) (t : Tof F w w') (hf : ∀ ad, a = some ad → ¬ F ad.block) : By w' l a c :=
  ⟨h.cap, h.nil, fun ad hd j hj => ⟨Nat.lt_of_lt_of_le (h.cell ad hd j hj).1 t.size, cell_tof (h.cell ad hd j hj).2 t (by rw [add_block]; exact hf ad hd)⟩, h.u8⟩
theorem By.tch {w w' : World} {l : List Int} {a : Option Addr} {c : Nat} (h : By w l a c) (t : Tch [] w w') : By w' l a c :=
  h.tof (Tof.of_tch (F := fun _ => False) t (by simp)) (fun _ _ => id)

/-- The path of a prefix with holes. -/
def hopAt (f : Nat → Bool) (l : List Int) (j : Nat) : Hop := if f j then none else some (l.getD j 0)
def pathOf (f : Nat → Bool) (l : List Int) : Path := (List.range l.length).map (hopAt f l)
theorem pathOf_len (f : Nat → Bool) (l : List Int) : (pathOf f l).length = l.length := by simp [pathOf]
theorem pathOf_take (f : Nat → Bool) (l : List Int) {k : Nat} (hk : k < l.length) : (pathOf f l).take (k + 1) = (pathOf f l).take k ++ [hopAt f l k] := by
  rw [List.take_succ_eq_append_getElem (by rw [pathOf_len]; exact hk)]
  simp [pathOf]

/-- A trie: its struct in tb. -/
structure TrAt (w : World) (base tb root : Nat) (N : Net) : Prop where
  tm : TM w base root N
  top : w.heap[tb]? = some (.cells #[ptr root] 74 (0, 0))
  lo : base ≤ tb

theorem TrAt.free {w : World} {base tb root : Nat} {N : Net} (h : TrAt w base tb root N) : ¬ fpAt N [] tb := by
  rintro ⟨q, r, h1, h2⟩
  have hnd := h.tm.node q r (by simpa using h1)
  have ht := h.top
  rcases h2 with e | e | e
  · rw [e, hnd.cells] at ht; simp at ht
  · obtain ⟨es, clk, h3, -⟩ := hnd.map
    rw [e, h3] at ht; simp at ht
  · obtain ⟨cur, h3⟩ := ownsRow_block hnd.row e
    rw [h3] at ht; simp at ht
theorem TM.fp_lt {w : World} {base root : Nat} {N : Net} (h : TM w base root N) {k : Nat} (hk : fpAt N [] k) : base ≤ k ∧ k < w.heap.size := by
  obtain ⟨q, r, h1, h2⟩ := hk
  exact (h.node q r (by simpa using h1)).has_lo h2
theorem TrAt.tch {w w' : World} {base tb root : Nat} {N : Net} (h : TrAt w base tb root N) (t : Tch [] w w') : TrAt w' base tb root N := ⟨h.tm.tch t, t.obj h.top (by simp), h.lo⟩

/-- What a change of a trie leaves. -/
structure Went (w : World) (base tb root : Nat) (N : Net) (C : Cont) (w' : World) (N' : Net) : Prop where
  tr : TrAt w' base tb root N'
  cont : cont N' = C
  t : Tof (fpAt N []) w w'
  fp : ∀ k, fpAt N' [] k → fpAt N [] k ∨ w.heap.size ≤ k

theorem growC_have {C : Cont} {N1 : Net} {p : Path} {s : Hop} {c : NRec} (h : cont N1 = growC C p) (hc : N1 (p ++ [s]) = some c) : cont N1 = growC C (p ++ [s]) := by
  rw [growC_snoc, ← h]
  funext q
  by_cases e : q = p ++ [s]
  · subst e
    rw [if_pos rfl]
    have h1 : cont N1 (p ++ [s]) = some c.ids := cont_some.2 ⟨c, hc, rfl⟩
    have h2 := h1
    rw [h] at h2
    unfold growC at h2
    rw [if_neg (fun hp => by have := hp.length_le; rw [List.length_append, List.length_singleton] at this; omega)] at h2
    rw [h1, h2]; rfl
  · rw [if_neg e]
theorem growC_new {C : Cont} {N1 N2 : Net} {p : Path} {s : Hop} (h : cont N1 = growC C p) (hn : N1 (p ++ [s]) = none) (h2 : cont N2 = fun q => if q = p ++ [s] then some [] else cont N1 q) : cont N2 = growC C (p ++ [s]) := by
  rw [growC_snoc, h2, h]
  funext q
  by_cases e : q = p ++ [s]
  · subst e
    rw [if_pos rfl, if_pos rfl]
    have h1 : cont N1 (p ++ [s]) = none := cont_none.2 hn
    rw [h] at h1
    unfold growC at h1
    rw [if_neg (fun hp => by have := hp.length_le; rw [List.length_append, List.length_singleton] at this; omega)] at h1
    rw [h1]; rfl
  · rw [if_neg e, if_neg e]

end Go.Proofs.YtcolffccbmpndaaGreatDoor
