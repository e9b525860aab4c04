/- badgerlevels.New: what it makes. -/
import Derived.Test.YtdofgamahjmohaaLvX
namespace Go.Proofs.Ytdofgamahjmohaa
open Go.Shelf Go.RowKit
set_option maxRecDepth 100000

/-- A level's handler, as it lies. -/
structure HD where
  h : Nat
  A : Option Addr
  n : Nat
  c : Nat
  ps : List (Nat × Tb)
structure Lev (w : World) (go : Nat) (j : Nat) (d : HD) (ts : List Tb) : Prop where
  hh : HCells w d.h d.A d.n d.c (tsum Tb.bytes ts) (tsum Tb.stale ts) j (ptr go)
  pv : PtsV w d.A d.n d.c d.ps
  ts : d.ps.map (·.2) = ts

theorem Lev.tch {w w' : World} {go j : Nat} {d : HD} {ts : List Tb} (h : Lev w go j d ts) (k : Tch [] w w') : Lev w' go j d ts := ⟨⟨k.obj h.hh.out (by simp)⟩, h.pv.tch k, h.ts⟩
theorem Lev.keep {w w' : World} {go j : Nat} {d : HD} {ts : List Tb} {S : List Nat} {e' : TypeId} (h : Lev w go j d ts) (k : Tch S w w') (hS : ∀ b ∈ S, ∃ cur fr, w.heap[b]? = some (.cells cur e' fr)) (h1 : 94 ≠ e') (h2 : 5 ≠ e') (h3 : 124 ≠ e') (h4 : 123 ≠ e') : Lev w' go j d ts :=
  ⟨⟨k.obj h.hh.out (fun hm => by
    obtain ⟨cur, fr, hb⟩ := hS _ hm
    exact absurd rfl (cells_ne h.hh.out hb h4))⟩, h.pv.keep k hS h1 h2 h3, h.ts⟩

/-- An element's cells of a row of tables of the package. -/
theorem PtRow.cells {w : World} {ps : List (Tb × Nat × Nat)} {ad : Addr} {n c : Nat} (h : PtRow w ps (some ad) n c) {j : Nat} (hj : j < n) :
    ad.block < w.heap.size ∧ (w.cell? (ad.add (j * 7)) = some (.int .u64 (ps.getD j default).1.num) ∧
    ∀ i u, 0 < i → (ptL (ps.getD j default))[i]? = some u → w.cell? ⟨(ad.add (j * 7)).block, (ad.add (j * 7)).off + i, none⟩ = some u) := by
  have hl := h.len
  have hjp : j < ps.length := by omega
  have hps : ps[j]? = some (ps.getD j default) := by simp [List.getD, List.getElem?_eq_getElem hjp]
  have hat : ∀ i u, (ptL (ps.getD j default))[i]? = some u → i < 7 → (ps.flatMap ptL)[j * 7 + i]? = some u := fun i u hu hi => by
    rw [flat_at ptL 7 (fun _ => rfl) ps j i _ hps hi]; exact hu
  obtain ⟨g, e⟩ : ∃ g, ad = ⟨g, 0, none⟩ := by
    rcases h.row.2 with ⟨h1, -⟩ | ⟨g, cap, cur, h1, -⟩
    · simp at h1
    · simp only [Value.slice.injEq, Option.some.injEq] at h1
      exact ⟨g, h1.1⟩
  subst e
  have h0 := own_cell h.row (hat 0 _ rfl (by omega))
  refine ⟨h0.1, ?_, fun i u hi hu => ?_⟩
  · have := h0.2
    rw [Nat.add_zero] at this
    exact this
  · have hi7 : i < 7 := by
      have := (List.getElem?_eq_some_iff.1 hu).1
      exact this
    have := (own_cell h.row (hat i u hu hi7)).2
    have e1 : (⟨g, 0, none⟩ : Addr).add (j * 7 + i) = ⟨((⟨g, 0, none⟩ : Addr).add (j * 7)).block, ((⟨g, 0, none⟩ : Addr).add (j * 7)).off + i, none⟩ := by
      unfold Addr.add
      split <;> split <;> simp_all
    rw [e1] at this
    exact this

/-- Between two tables of a level that get a box each. -/
structure BoxAt (w1 wx : World) (ps : List (Tb × Nat × Nat)) (j : Nat) (la : Option Addr) (lc : Nat) (bs : List (Nat × Tb)) : Prop where
  row : wx.ownsRow w1.heap.size 124 1 (.slice la j lc) j (bs.map (fun p => ptr p.1))
  ts : bs.map (·.2) = (ps.map (·.1)).take j
  box : ∀ p ∈ bs, PtBox wx p.1 p.2
  t : Tch [] w1 wx

theorem BoxAt.step {w1 wx w2 w3 : World} {ps : List (Tb × Nat × Nat)} {j : Nat} {la : Option Addr} {lc : Nat} {bs : List (Nat × Tb)} (h : BoxAt w1 wx ps j la lc bs) (hj : j < ps.length) (t2 : Tch [] wx w2) {gb g' c' : Nat} (hb : PtBox w2 gb (ps.getD j default).1)
    (t3 : Tch (Value.slice la j lc).ownBlock.toList w2 w3) (ho : w3.ownsRow w1.heap.size 124 1 (.slice (some ⟨g', 0, none⟩) (j + 1) c') (j + 1) (bs.map (fun p => ptr p.1) ++ [ptr gb])) :
    BoxAt w1 w3 ps (j + 1) (some ⟨g', 0, none⟩) c' (bs ++ [(gb, (ps.getD j default).1)]) := by
  have hS : ∀ g ∈ (Value.slice la j lc).ownBlock.toList, ∃ cur fr, w2.heap[g]? = some (.cells cur 124 fr) := fun g hg => by
    obtain ⟨cur, fr, e⟩ := own_blocks h.row g hg
    exact ⟨cur, fr, t2.obj e (by simp)⟩
  refine ⟨by rw [List.map_append]; exact ho, ?_, fun p hp => ?_, ?_⟩
  · rw [List.map_append, h.ts, take_getD _ default (by rw [List.length_map]; exact hj)]
    simp [List.getD, List.getElem?_eq_getElem hj]
  · rcases List.mem_append.1 hp with hp | hp
    · exact ((h.box p hp).tch t2).keep t3 hS (by decide) (by decide)
    · obtain rfl := List.mem_singleton.1 hp
      exact hb.keep t3 hS (by decide) (by decide)
  · have t12 := h.t.trans t2
    refine ⟨t3.os.trans t12.os, t3.output.trans t12.output, Nat.le_trans t12.size t3.size, fun k hk _ => ?_⟩
    rw [t3.block k (Nat.lt_of_lt_of_le hk t12.size) (fun hm => ?_), t12.block k hk (by simp)]
    have := (h.row.lt k (by simpa [Option.mem_toList] using hm)).1
    omega

end Go.Proofs.Ytdofgamahjmohaa
