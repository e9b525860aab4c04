/- A trie in memory. -/
import Derived.Test.YtcolffccbmpndaaGreatDoorTrP
namespace Go.Proofs.YtcolffccbmpndaaGreatDoor
open Go.RowKit
set_option maxRecDepth 100000

/-- A node: its block, that of its children, its numbers, the slice that holds them, the children's entries. -/
structure NRec where
  blk : Nat
  mb : Nat
  ids : List Int
  v : Value
  ch : List (Int × Value)
abbrev Net := Path → Option NRec
def cont (N : Net) : Cont := fun q => (N q).map (·.ids)
def ptrO : Option NRec → Value
  | none => .pointer none
  | some r => ptr r.blk
def uV (l : List Int) : List Value := l.map (.int .u64)

/-- A node in memory. -/
structure Nd (w : World) (base : Nat) (N : Net) (q : Path) (r : NRec) : Prop where
  cells : w.heap[r.blk]? = some (.cells #[.map (some r.mb), ptrO (N (q ++ [none])), r.v] 86 (0, 0))
  map : RMap .u8 w r.mb r.ch
  ch : ∀ b : Int, at? r.ch b = (N (q ++ [some b])).map (fun c => ptr c.blk)
  row : w.ownsRow base 26 1 r.v r.ids.length (uV r.ids)
  lo : base ≤ r.blk ∧ base ≤ r.mb
  len : r.ids.length ≤ 10000000

/-- Two nodes share a block. -/
def Meets (r r' : NRec) : Prop := r.blk = r'.blk ∨ r.mb = r'.mb ∨ ∃ g, r.v.ownBlock = some g ∧ r'.v.ownBlock = some g
/-- A trie in memory, all of it made since base. -/
structure TM (w : World) (base root : Nat) (N : Net) : Prop where
  root : ∃ r, N [] = some r ∧ r.blk = root
  node : ∀ q r, N q = some r → Nd w base N q r
  up : Up (cont N)
  inj : ∀ q q' r r', N q = some r → N q' = some r' → Meets r r' → q = q'
  size : base ≤ w.heap.size

theorem cont_ne {N : Net} {q : Path} : cont N q ≠ none ↔ N q ≠ none := by unfold cont; cases N q <;> simp
theorem cont_some {N : Net} {q : Path} {l : List Int} : cont N q = some l ↔ ∃ r, N q = some r ∧ r.ids = l := by unfold cont; cases N q <;> simp
theorem cont_none {N : Net} {q : Path} : cont N q = none ↔ N q = none := by unfold cont; cases N q <;> simp

/-- The blocks of a node. -/
def NRec.has (r : NRec) (k : Nat) : Prop := k = r.blk ∨ k = r.mb ∨ r.v.ownBlock = some k
/-- The blocks of the nodes at and below q. -/
def fpAt (N : Net) (q : Path) (k : Nat) : Prop := ∃ t r, N (q ++ t) = some r ∧ r.has k

/-- Only blocks of F are written. -/
structure Tof (F : Nat → Prop) (w w' : World) : Prop where
  os : w'.os = w.os
  output : w'.output = w.output
  size : w.heap.size ≤ w'.heap.size
  block : ∀ k, k < w.heap.size → ¬ F k → w'.heap[k]? = w.heap[k]?
theorem Tof.refl (F : Nat → Prop) (w : World) : Tof F w w := ⟨rfl, rfl, Nat.le_refl _, fun _ _ _ => rfl⟩
theorem Tof.of_tch {F : Nat → Prop} {S : List Nat} {w w' : World} (h : Tch S w w') (hs : ∀ k ∈ S, k < w.heap.size → F k) : Tof F w w' :=
  ⟨h.os, h.output, h.size, fun k hk hf => h.block k hk (fun hm => hf (hs k hm hk))⟩
theorem Tof.trans {F G : Nat → Prop} {a b c : World} (h : Tof F a b) (k : Tof G b c) (hs : ∀ i, i < a.heap.size → G i → F i) : Tof F a c :=
  ⟨k.os.trans h.os, k.output.trans h.output, Nat.le_trans h.size k.size, fun i hi hf => (k.block i (Nat.lt_of_lt_of_le hi h.size) (fun hg => hf (hs i hi hg))).trans (h.block i hi hf)⟩
theorem Tof.mono {F G : Nat → Prop} {a b : World} (h : Tof F a b) (hs : ∀ i, i < a.heap.size → F i → G i) : Tof G a b :=
  ⟨h.os, h.output, h.size, fun i hi hf => h.block i hi (fun hg => hf (hs i hi hg))⟩
theorem Tof.tch {F : Nat → Prop} {w w' : World} (h : Tof F w w') (hs : ∀ k, k < w.heap.size → ¬ F k) : Tch [] w w' :=
  ⟨h.os, h.output, h.size, fun k hk _ => h.block k hk (hs k hk)⟩
theorem Tof.obj {F : Nat → Prop} {w w' : World} (h : Tof F w w') {b : Nat} {o : Obj} (hb : w.heap[b]? = some o) (hf : ¬ F b) : w'.heap[b]? = some o :=
  (h.block b (lt_of_obj hb) hf).trans hb

theorem ownsRow_tof {F : Nat → Prop} {w w' : World} {base : Nat} {e : TypeId} {sz : Nat} {v : Value} {n : Nat} {xs : List Value} (h : Tof F w w') (ho : w.ownsRow base e sz v n xs) (hp : ∀ g, v.ownBlock = some g → ¬ F g) : w'.ownsRow base e sz v n xs := by
  refine ⟨ho.1, ?_⟩
  rcases ho.2 with hn | ⟨g, cap, cur, rfl, hb, hgg, rest⟩
  · exact .inl hn
  · exact .inr ⟨g, cap, cur, rfl, hb, h.obj hgg (hp g rfl), rest⟩
theorem RMap.tof {F : Nat → Prop} {q : IntKind} {w w' : World} {b : Nat} {l : List (Int × Value)} (h : RMap q w b l) (t : Tof F w w') (hb : ¬ F b) : RMap q w' b l := by
  obtain ⟨es, clk, h1, h2⟩ := h
  exact ⟨es, clk, t.obj h1 hb, h2⟩

/-- A node stays where its blocks are not written and its neighbours are the same. -/
theorem Nd.keep {F : Nat → Prop} {w w' : World} {base : Nat} {N N' : Net} {q : Path} {r : NRec} (h : Nd w base N q r) (t : Tof F w w') (hf : ∀ k, r.has k → ¬ F k) (hn : ∀ s, (N' (q ++ [s])).map (·.blk) = (N (q ++ [s])).map (·.blk)) : Nd w' base N' q r := by
  refine ⟨?_, h.map.tof t (hf _ (.inr (.inl rfl))), fun b => ?_, ownsRow_tof t h.row (fun g hg => hf g (.inr (.inr hg))), h.lo, h.len⟩
  · have := t.obj h.cells (hf _ (.inl rfl))
    have e := hn none
    have e2 : ptrO (N' (q ++ [none])) = ptrO (N (q ++ [none])) := by
      cases h1 : N' (q ++ [none]) <;> cases h2 : N (q ++ [none]) <;> simp [h1, h2] at e <;> simp [ptrO, e]
    rw [e2]; exact this
  · rw [h.ch b]
    have e := hn (some b)
    cases h1 : N' (q ++ [some b]) <;> cases h2 : N (q ++ [some b]) <;> simp [h1, h2] at e <;> simp [e]
theorem TM.tof {F : Nat → Prop} {w w' : World} {base root : Nat} {N : Net} (h : TM w base root N) (t : Tof F w w') (hf : ∀ q r, N q = some r → ∀ k, r.has k → ¬ F k) : TM w' base root N :=
  ⟨h.root, fun q r hq => (h.node q r hq).keep t (hf q r hq) (fun _ => rfl), h.up, h.inj, Nat.le_trans h.size t.size⟩
theorem TM.tch {w w' : World} {base root : Nat} {N : Net} (h : TM w base root N) (t : Tch [] w w') : TM w' base root N :=
  h.tof (Tof.of_tch (F := fun _ => False) t (by simp)) (fun _ _ _ _ _ => id)

/-- All blocks of a node are there and not older than base. -/
theorem Nd.has_lo {w : World} {base : Nat} {N : Net} {q : Path} {r : NRec} (h : Nd w base N q r) {k : Nat} (hk : r.has k) : base ≤ k ∧ k < w.heap.size := by
  rcases hk with rfl | rfl | hk
  · exact ⟨h.lo.1, lt_of_obj h.cells⟩
  · exact ⟨h.lo.2, h.map.lt⟩
  · exact h.row.lt k hk

/-- Blocks of different kinds are different. -/
theorem Nd.kinds {w : World} {base : Nat} {N : Net} {q q' : Path} {r r' : NRec} (h : Nd w base N q r) (h' : Nd w base N q' r') : r.blk ≠ r'.mb ∧ r'.v.ownBlock ≠ some r.blk ∧ r'.v.ownBlock ≠ some r.mb := by
  refine ⟨fun e => ?_, fun e => ?_, fun e => ?_⟩
  · obtain ⟨es, clk, h1, -⟩ := h'.map
    rw [← e, h.cells] at h1
    simp at h1
  · obtain ⟨cur, h1⟩ := ownsRow_block h'.row e
    rw [h.cells] at h1
    simp at h1
  · obtain ⟨cur, h1⟩ := ownsRow_block h'.row e
    obtain ⟨es, clk, h2, -⟩ := h.map
    rw [h2] at h1
    simp at h1
/-- A block belongs to one node. -/
theorem TM.one {w : World} {base root : Nat} {N : Net} (h : TM w base root N) {q q' : Path} {r r' : NRec} (hq : N q = some r) (hq' : N q' = some r') {k : Nat} (hk : r.has k) (hk' : r'.has k) : q = q' := by
  have a := h.node q r hq
  have b := h.node q' r' hq'
  obtain ⟨a1, a2, a3⟩ := a.kinds b
  obtain ⟨b1, b2, b3⟩ := b.kinds a
  refine h.inj q q' r r' hq hq' ?_
  rcases hk with rfl | rfl | hk <;> rcases hk' with hk' | hk' | hk'
  · exact .inl hk'
  · exact absurd hk' a1
  · exact absurd hk' a2
  · exact absurd hk'.symm b1
  · exact .inr (.inl hk')
  · exact absurd hk' a3
  · subst hk'; exact absurd hk b2
  · subst hk'; exact absurd hk b3
  · exact .inr (.inr ⟨k, hk, hk'⟩)

end Go.Proofs.YtcolffccbmpndaaGreatDoor
