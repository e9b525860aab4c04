/- Something more waits. -/
import Derived.Test.YtaheafmdkbobcaaProc
namespace Go.Proofs.Ytaheafmdkbobcaa
open Go.RowKit

theorem blk_snoc (ws : List (Nat × Int)) (b : Nat) (i k : Int) : blk (ws ++ [(b, i)]) k = if i = k then blk ws k ++ [b] else blk ws k := by
  unfold blk
  rw [List.filter_append]
  by_cases h : i = k
  · simp [h]
  · simp [h]

theorem putL_none {l : List (Int × Value)} {k : Int} {v : Value} (h : at? l k = none) : putL l k v = l ++ [(k, v)] := by simp [putL, h]
theorem putL_some {l : List (Int × Value)} {k : Int} {v u : Value} (h : at? l k = some u) : putL l k v = l.map (fun p => if p.1 = k then (k, v) else p) := by simp [putL, h]

theorem putL_keys {l : List (Int × Value)} {k : Int} {v u : Value} (h : at? l k = some u) : (putL l k v).map Prod.fst = l.map Prod.fst := by
  rw [putL_some h, List.map_map]
  apply List.map_congr_left
  intro p _
  simp only [Function.comp]
  split <;> simp_all

theorem mem_putL {l : List (Int × Value)} {k : Int} {v u : Value} (h : at? l k = some u) {p : Int × Value} (hp : p ∈ putL l k v) : p = (k, v) ∨ (p ∈ l ∧ p.1 ≠ k) := by
  rw [putL_some h] at hp
  obtain ⟨q, hq, e⟩ := List.mem_map.1 hp
  split at e
  · exact .inl e.symm
  · rename_i hne; rw [← e]; exact .inr ⟨hq, hne⟩

section
variable {w w1 : World} {L : Lay} {x3 v : Value} {til last : Int} {hs : List Int} {pl : List (Int × Int)} {ws : List (Nat × Int)} {f : Int → Bool} {es : List (Int × Value)}

/-- The new entry of the map, whatever it is: what else is there stays. T: what has been written: the map, the old row, new blocks. -/
theorem Inr.waitAny (h : Inr w L x3 v til last hs pl ws f es) {b : Nat} {i : Int} {vn : Value} (hf : f i = false) (hb : FlagAt w b false) (S : List Nat) (t : Tch (L.qb :: S) w w1) (hS : ∀ k ∈ S, ∃ cur, w.heap[k]? = some (.cells cur 51 (0, 0)))
    (hm : RMap .u64 w1 L.qb (putL es i vn)) (hown : w1.ownsRow 0 51 1 vn ((blk ws i).length + 1) ((blk ws i ++ [b]).map ptr)) (hoth : ∀ p ∈ es, p.1 ≠ i → ∀ g, p.2.ownBlock = some g → g ∉ S) (hap : ((putL es i vn).map (fun p => p.2.ownBlock)).Nodup) :
    Inr w1 L x3 v til last hs pl (ws ++ [(b, i)]) f (putL es i vn) := by
  have hne : ∀ {b : Nat} {c : Array Value} {tt : TypeId}, w.heap[b]? = some (.cells c tt (0, 0)) → tt ≠ 51 → b ∉ L.qb :: S := by
    intro b c tt hb h1 hmem
    rcases List.mem_cons.1 hmem with rfl | hmem
    · exact h.wt.map.ne_cells hb rfl
    · obtain ⟨cur, hc⟩ := hS _ hmem
      exact cells_ne hb hc h1 rfl
  have hpb : L.pb ∉ L.qb :: S := by
    intro hmem
    rcases List.mem_cons.1 hmem with e | hmem
    · exact h.core.pq e
    · obtain ⟨cur, hc⟩ := hS _ hmem
      exact h.core.pend.ne_cells hc rfl
  have hk : ∀ k, (k ∈ (putL es i vn).map Prod.fst) ↔ (f k = false ∧ ∃ b', (b', k) ∈ ws ++ [(b, i)]) := by
    intro k
    cases ha : at? es i with
    | none =>
      rw [putL_none ha]
      simp only [List.map_append, List.map_cons, List.map_nil, List.mem_append, List.mem_singleton, h.wt.key k]
      constructor
      · rintro (⟨a, c, d⟩ | e)
        · exact ⟨a, c, .inl d⟩
        · subst e; exact ⟨hf, b, .inr rfl⟩
      · rintro ⟨a, c, d | d⟩
        · exact .inl ⟨a, c, d⟩
        · exact .inr (by simpa using congrArg Prod.snd d)
    | some u =>
      rw [putL_keys ha, h.wt.key k]
      simp only [List.mem_append, List.mem_singleton]
      constructor
      · rintro ⟨a, c, d⟩; exact ⟨a, c, .inl d⟩
      · rintro ⟨a, c, d | d⟩
        · exact ⟨a, c, d⟩
        · have e : k = i := by simpa using congrArg Prod.snd d
          have : i ∈ es.map Prod.fst := List.mem_map.2 ⟨(i, u), at?_some_mem ha, rfl⟩
          rw [e]
          exact (h.wt.key i).1 this
  refine ⟨h.core.tch t (hne h.core.str (by decide)) hpb (hne h.core.b1 (by decide)) (hne h.core.b2 (by decide)) (hne h.core.b3 (by decide)), h.hp.tch t (hne h.hp.box (by decide)) ?_, ⟨hm, ?_, hap, hk⟩, ?_⟩
  · intro g hg
    obtain ⟨cur, hc⟩ := h.heapBlock hg
    exact hne hc (by decide)
  · have hold : ∀ p ∈ es, p.1 ≠ i → w1.ownsRow 0 51 1 p.2 (blk (ws ++ [(b, i)]) p.1).length ((blk (ws ++ [(b, i)]) p.1).map ptr) := by
      intro p hp hne'
      rw [blk_snoc, if_neg (Ne.symm hne')]
      refine t.own (h.wt.row p hp) (fun g hg hmem => ?_)
      rcases List.mem_cons.1 hmem with rfl | hmem
      · obtain ⟨cur, hc⟩ := ownsRow_block (h.wt.row p hp) hg
        exact h.wt.map.ne_cells hc rfl
      · exact hoth p hp hne' g hg hmem
    have hnew : w1.ownsRow 0 51 1 vn (blk (ws ++ [(b, i)]) i).length ((blk (ws ++ [(b, i)]) i).map ptr) := by
      rw [blk_snoc, if_pos rfl, List.length_append]
      exact hown
    intro p hp
    cases ha : at? es i with
    | none =>
      rw [putL_none ha] at hp
      rcases List.mem_append.1 hp with hp | hp
      · exact hold p hp (at?_none.1 ha p hp)
      · rw [List.mem_singleton.1 hp]; exact hnew
    | some u =>
      rcases mem_putL ha hp with rfl | ⟨hp, hne'⟩
      · exact hnew
      · exact hold p hp hne'
  · intro p hp
    rcases List.mem_append.1 hp with hp | hp
    · exact t.obj (h.flag p hp) (hne (h.flag p hp) (by decide))
    · have e := List.mem_singleton.1 hp
      subst e
      simp only [FlagAt, hf]
      exact t.obj hb (hne hb (by decide))
end

end Go.Proofs.Ytaheafmdkbobcaa
