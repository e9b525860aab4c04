/- The calls of notifyAndRemove from the two loops. -/
import Derived.Test.YtaheafmdkbobcaaInrC
namespace Go.Proofs.Ytaheafmdkbobcaa
open Go.RowKit

section
variable {w : World} {L : Lay} {x3 v : Value} {til last : Int} {hs : List Int} {pl : List (Int × Int)} {ws : List (Nat × Int)} {f : Int → Bool} {es : List (Int × Value)}

theorem Inr.blkCells (h : Inr w L x3 v til last hs pl ws f es) {k : Int} {b : Nat} (hb : b ∈ blk ws k) : ∃ fl, FlagAt w b fl := ⟨_, h.flag _ (mem_blk.1 hb)⟩

theorem Inr.qbBlk (h : Inr w L x3 v til last hs pl ws f es) (k : Int) : L.qb ∉ blk ws k := by
  intro hm
  obtain ⟨fl, hf⟩ := h.blkCells hm
  exact h.wt.map.ne_cells hf rfl

theorem blk_len (ws : List (Nat × Int)) (k : Int) : (blk ws k).length ≤ ws.length := by
  unfold blk
  rw [List.length_map]
  exact List.length_filter_le _ _

theorem notifyB {j : Int} {vv : Value} (h : Inr w L x3 v til last hs pl ws (fB j) (esB j es)) (hat : at? (esB j es) j = some vv) (hnd : (ws.map Prod.fst).Nodup) (hws : ws.length ≤ 1000000) :
    ∃ g cap n, vv = .slice (some ⟨g, 0, none⟩) n cap ∧ Calls Try.prog 40 #[.int .u64 j, .slice (some ⟨g, 0, none⟩) n cap, ptr L.qbx] w fun e w' => e = .returned (.tuple #[]) ∧
      Inr w' L x3 v til last hs pl ws (fB (j + 1)) (esB (j + 1) es) ∧ Tch (L.qb :: ws.map Prod.fst) w w' := by
  obtain ⟨g, cap, hv, hrow⟩ := h.wt.slice (at?_some_mem hat)
  refine ⟨g, cap, _, hv, ?_⟩
  refine notify_any j g cap L.qbx L.qb (blk ws j) w _ hrow (fun b hb => h.blkCells hb) h.core.b3 (by have := blk_len ws j; omega) ?_
  intro w1 ty t1 hf1
  obtain ⟨w2, hr, hm, t2⟩ := (h.wt.map.tch t1 (h.qbBlk j)).delete (P := Try.prog) (t := 60) Try.underlying28 Try.underlying60 j ty
  exact ⟨w2, hr, h.someB hat t1 hf1 t2 hm hnd⟩

theorem RIter.ne_cells {q : IntKind} {r b c : Nat} {l : List (Int × Value)} {left : List Int} {cs : Array Value} {t : TypeId} {fr : Nat × Nat} (h : RIter q w r b l left) (hc : w.heap[c]? = some (.cells cs t fr)) : r ≠ c := by
  obtain ⟨es, clk, since, seen, c0, h1, h2, h3, h4, _⟩ := h
  exact obj_ne h4 hc (by simp)
theorem RIter.ne_map {q q' : IntKind} {r b c : Nat} {l l' : List (Int × Value)} {left : List Int} (h : RIter q w r b l left) (hc : RMap q' w c l') : r ≠ c := by
  obtain ⟨es, clk, since, seen, c0, h1, h2, h3, h4, _⟩ := h
  obtain ⟨es', clk', k1, _⟩ := hc
  exact obj_ne h4 k1 (by simp)

theorem notifyR {til0 u : Int} {left : List Int} {k : Int} {vv : Value} {r : Nat} (h : Inr w L x3 v til last hs pl ws (fR til0 u left) (esR u left es)) (hat : at? (esR u left es) k = some vv) (hk : k ≤ u)
    (hit : RIter .u64 w r L.qb (esR u left es) (left.filter (· != k))) (hnd : (ws.map Prod.fst).Nodup) (hws : ws.length ≤ 1000000) :
    ∃ g cap n, vv = .slice (some ⟨g, 0, none⟩) n cap ∧ Calls Try.prog 40 #[.int .u64 k, .slice (some ⟨g, 0, none⟩) n cap, ptr L.qbx] w fun e w' => e = .returned (.tuple #[]) ∧
      Inr w' L x3 v til last hs pl ws (fR til0 u (left.filter (· != k))) (esR u (left.filter (· != k)) es) ∧ RIter .u64 w' r L.qb (esR u (left.filter (· != k)) es) (left.filter (· != k)) ∧ Tch (L.qb :: ws.map Prod.fst) w w' := by
  obtain ⟨g, cap, hv, hrow⟩ := h.wt.slice (at?_some_mem hat)
  refine ⟨g, cap, _, hv, ?_⟩
  refine notify_any k g cap L.qbx L.qb (blk ws k) w _ hrow (fun b hb => h.blkCells hb) h.core.b3 (by have := blk_len ws k; omega) ?_
  intro w1 ty t1 hf1
  have hrb : r ∉ blk ws k := by
    intro hm
    obtain ⟨fl, hf⟩ := h.blkCells hm
    exact hit.ne_cells hf rfl
  obtain ⟨w2, hr, hm, t2, _⟩ := (hit.tch t1 hrb (h.qbBlk k)).delete (P := Try.prog) (t := 60) (hit.ne_map h.wt.map) Try.underlying28 Try.underlying60 k (by simp) ty
  obtain ⟨i2, tt⟩ := h.tellR hat hk t1 hf1 t2 hm.map hnd
  rw [delL_esR left es hk] at hm
  exact ⟨w2, hr, i2, hm, tt⟩

/-- Nothing that was there is written. -/
theorem Inr.nil {w' : World} (h : Inr w L x3 v til last hs pl ws f es) (t : Tch [] w w') : Inr w' L x3 v til last hs pl ws f es :=
  ⟨h.core.tch t (by simp) (by simp) (by simp) (by simp) (by simp), h.hp.tch t (by simp) (by simp), h.wt.tch t (by simp) (by simp), flags_tch h.flag t (by simp)⟩

/-- The iterator is moved. -/
theorem Inr.iter {w' : World} {q : IntKind} {r b : Nat} {l : List (Int × Value)} {left : List Int} (h : Inr w L x3 v til last hs pl ws f es) (hit : RIter q w r b l left) (t : Tch [r] w w') : Inr w' L x3 v til last hs pl ws f es := by
  have hc : ∀ {b : Nat} {c : Array Value} {tt : TypeId}, w.heap[b]? = some (.cells c tt (0, 0)) → b ∉ [r] := by
    intro b c tt hb hm
    exact hit.ne_cells hb (List.mem_singleton.1 hm).symm
  have hm : ∀ {b : Nat} {l : List (Int × Value)}, RMap .u64 w b l → b ∉ [r] := by
    intro b l hb hm
    exact hit.ne_map hb (List.mem_singleton.1 hm).symm
  refine ⟨h.core.tch t (hc h.core.str) (hm h.core.pend) (hc h.core.b1) (hc h.core.b2) (hc h.core.b3), h.hp.tch t (hc h.hp.box) ?_, h.wt.tch t (hm h.wt.map) ?_, flags_tch h.flag t (fun p hp => hc (h.flag p hp))⟩
  · intro g hg
    obtain ⟨cur, hcu⟩ := h.heapBlock hg
    exact hc hcu
  · intro g hg
    obtain ⟨cur, hcu⟩ := rows_cells h.wt hg
    exact hc hcu

end

end Go.Proofs.Ytaheafmdkbobcaa
