/- impl.made: the walk, as far as the package's own door. -/
import Derived.Test.YtdofgamahjmohaaLvM
import Derived.BigQuiet
namespace Go.Proofs.Ytdofgamahjmohaa
open Go.RowKit
set_option maxRecDepth 100000

/-- A table that came in as levels in order have them. -/
def Tb.whole (t : Tb) : Prop := t.t1 = true ∧ t.t2 = true

theorem KeyOut.row {w w' : World} {k : Kv} {e : Ending} (h : KeyOut w k e w') : ∃ g, e = .returned (keyV g k.key.length (k.key.length + 8)) ∧ KeyRow w' k g ∧ Tch [] w w' := by
  obtain ⟨g, h1, h2, -, h4⟩ := h
  exact ⟨g, h1, h2, h4⟩

structure InM (w1 wx : World) (ts : List Tb) (i : Nat) (sa : Option Addr) (sc : Nat) (ps : List (Tb × Nat × Nat)) : Prop where
  own : wx.ownsRow w1.heap.size 94 7 (.slice sa i sc) i (ps.flatMap ptL)
  fst : ps.map (·.1) = ts.take i
  k1 : ∀ p ∈ ps, KeyRow wx p.1.k1 p.2.1
  k2 : ∀ p ∈ ps, KeyRow wx p.1.k2 p.2.2
  t : Tch [] w1 wx

theorem InM.step {w1 wx w2 w3 : World} {ts : List Tb} {i : Nat} {sa : Option Addr} {sc : Nat} {ps : List (Tb × Nat × Nat)} (h : InM w1 wx ts i sa sc ps) (hi : i < ts.length) (t2 : Tch [] wx w2) {g1 g2 g' c' : Nat} (q1 : KeyRow w2 (ts.getD i default).k1 g1) (q2 : KeyRow w2 (ts.getD i default).k2 g2)
    (t3 : Tch (Value.slice sa i sc).ownBlock.toList w2 w3) (ho : w3.ownsRow w1.heap.size 94 7 (.slice (some ⟨g', 0, none⟩) (i + 1) c') (i + 1) (ps.flatMap ptL ++ ptL (ts.getD i default, g1, g2))) :
    InM w1 w3 ts (i + 1) (some ⟨g', 0, none⟩) c' (ps ++ [(ts.getD i default, g1, g2)]) := by
  have hb : ∀ g ∈ (Value.slice sa i sc).ownBlock.toList, ∃ cur fr, w2.heap[g]? = some (.cells cur 94 fr) := fun g hg => by
    obtain ⟨cur, fr, e⟩ := own_blocks h.own g hg
    exact ⟨cur, fr, t2.obj e (by simp)⟩
  have keep : ∀ k g, KeyRow w2 k g → KeyRow w3 k g := fun k g hk => row_keep hk t3 hb (by decide)
  refine ⟨by rw [List.flatMap_append]; simpa using ho, by rw [List.map_append, h.fst, take_getD ts default hi]; rfl, fun p hp => ?_, fun p hp => ?_, ?_⟩
  · rcases List.mem_append.1 hp with hp | hp
    · exact keep _ _ (t2.own (h.k1 p hp) (by simp))
    · obtain rfl := List.mem_singleton.1 hp
      exact keep _ _ q1
  · rcases List.mem_append.1 hp with hp | hp
    · exact keep _ _ (t2.own (h.k2 p hp) (by simp))
    · obtain rfl := List.mem_singleton.1 hp
      exact keep _ _ q2
  · have t12 := h.t.trans t2
    refine ⟨t3.os.trans t12.os, t3.output.trans t12.output, Nat.le_trans t12.size t3.size, fun k hk _ => ?_⟩
    rw [t3.block k (Nat.lt_of_lt_of_le hk t12.size) (fun hm => ?_), t12.block k hk (by simp)]
    have := (h.own.lt k (by simpa [Option.mem_toList] using hm)).1
    omega

theorem InM.tch {w1 wx w2 : World} {ts : List Tb} {i : Nat} {sa : Option Addr} {sc : Nat} {ps : List (Tb × Nat × Nat)} (h : InM w1 wx ts i sa sc ps) (t : Tch [] wx w2) : InM w1 w2 ts i sa sc ps :=
  ⟨t.own h.own (by simp), h.fst, fun p hp => t.own (h.k1 p hp) (by simp), fun p hp => t.own (h.k2 p hp) (by simp), h.t.trans t⟩
theorem KeyRow.tch {w w' : World} {k : Kv} {g : Nat} (h : KeyRow w k g) (t : Tch [] w w') : KeyRow w' k g := t.own h (by simp)
theorem ptL_one (p : Tb × Nat × Nat) : ∀ y ∈ (ptL p).toArray.toList, y.oneCell' = true := by
  intro y hy
  simp only [ptL, List.mem_cons, List.not_mem_nil, or_false] at hy
  rcases hy with rfl | rfl | rfl | rfl | rfl | rfl | rfl <;> rfl

/-- The rows of tables of the package, level by level. -/
structure PlRow (b : Nat) (w : World) (qs : List (List (Tb × Nat × Nat) × Option Addr × Nat)) (a : Option Addr) (n c : Nat) : Prop where
  row : w.ownsRow b 92 1 (.slice a n c) n (qs.map (fun q => .slice q.2.1 q.1.length q.2.2))
  all : ∀ q ∈ qs, PtRow w q.1 q.2.1 q.1.length q.2.2
def qTs (qs : List (List (Tb × Nat × Nat) × Option Addr × Nat)) : List (List Tb) := qs.map (fun q => q.1.map (·.1))

structure OutM (w wr : World) (LL : List (List Tb)) (n : Nat) (sb : Option Addr) (sc : Nat) (qs : List (List (Tb × Nat × Nat) × Option Addr × Nat)) : Prop where
  pl : PlRow w.heap.size wr qs sb n sc
  eq : qTs qs = LL.take n
  t : Tch [] w wr

theorem OutM.step {w wr w2 w3 : World} {LL : List (List Tb)} {n : Nat} {sb : Option Addr} {sc : Nat} {qs : List (List (Tb × Nat × Nat) × Option Addr × Nat)} (h : OutM w wr LL n sb sc qs) (hn : n < LL.length) (t2 : Tch [] wr w2) {ps : List (Tb × Nat × Nat)} {a : Option Addr} {c g' c' : Nat} (hp : PtRow w2 ps a ps.length c) (hps : ps.map (·.1) = LL.getD n [])
    (t3 : Tch (Value.slice sb n sc).ownBlock.toList w2 w3) (ho : w3.ownsRow w.heap.size 92 1 (.slice (some ⟨g', 0, none⟩) (n + 1) c') (n + 1) (qs.map (fun q => .slice q.2.1 q.1.length q.2.2) ++ [.slice a ps.length c])) :
    OutM w w3 LL (n + 1) (some ⟨g', 0, none⟩) c' (qs ++ [(ps, a, c)]) := by
  have hb : ∀ g ∈ (Value.slice sb n sc).ownBlock.toList, ∃ cur fr, w2.heap[g]? = some (.cells cur 92 fr) := fun g hg => by
    obtain ⟨cur, fr, e⟩ := own_blocks h.pl.row g hg
    exact ⟨cur, fr, t2.obj e (by simp)⟩
  refine ⟨⟨by rw [List.map_append]; exact ho, fun q hq => ?_⟩, ?_, ?_⟩
  · rcases List.mem_append.1 hq with hq | hq
    · exact ((h.pl.all q hq).tch t2).keep t3 hb (by decide) (by decide)
    · obtain rfl := List.mem_singleton.1 hq
      exact hp.keep t3 hb (by decide) (by decide)
  · have : qTs (qs ++ [(ps, a, c)]) = qTs qs ++ [ps.map (·.1)] := by simp [qTs]
    rw [this, h.eq, hps, take_getD LL [] hn]
  · have t12 := h.t.trans t2
    refine ⟨t3.os.trans t12.os, t3.output.trans t12.output, Nat.le_trans t12.size t3.size, fun k hk _ => ?_⟩
    rw [t3.block k (Nat.lt_of_lt_of_le hk t12.size) (fun hm => ?_), t12.block k hk (by simp)]
    have := (h.pl.row.lt k (by simpa [Option.mem_toList] using hm)).1
    omega

end Go.Proofs.Ytdofgamahjmohaa
