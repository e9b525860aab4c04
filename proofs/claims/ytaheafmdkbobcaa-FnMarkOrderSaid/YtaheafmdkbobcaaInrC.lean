/- The two ways of telling those that wait. -/
import Derived.Test.YtaheafmdkbobcaaInrB
namespace Go.Proofs.Ytaheafmdkbobcaa
open Go.RowKit
set_option linter.unusedVariables false

/-- Those below j are told. -/
def fB (j : Int) (i : Int) : Bool := decide (i < j)
def esB (j : Int) (es : List (Int × Value)) : List (Int × Value) := es.filter (fun p => decide (j ≤ p.1))

section
variable {w : World} {L : Lay} {x3 v : Value} {til last : Int} {hs : List Int} {pl : List (Int × Int)} {ws : List (Nat × Int)} {f : Int → Bool} {es : List (Int × Value)}

theorem WtAt.keyOf {qb : Nat} (h : WtAt w qb ws f es) {p : Int × Value} (hp : p ∈ es) : f p.1 = false ∧ ∃ b, (b, p.1) ∈ ws := (h.key p.1).1 (List.mem_map.2 ⟨p, hp, rfl⟩)

theorem Inr.startB {til0 : Int} (h : Inr w L x3 v til last hs pl ws (fun i => decide (i ≤ til0)) es) : Inr w L x3 v til last hs pl ws (fB (til0 + 1)) (esB (til0 + 1) es) := by
  refine h.congr (fun p _ => by simp [fB]; omega) ?_
  unfold esB
  symm
  rw [List.filter_eq_self]
  intro p hp
  have := (h.wt.keyOf hp).1
  simp at this ⊢; omega

theorem Inr.endB {u : Int} (h : Inr w L x3 v u last hs pl ws (fB (u + 1)) (esB (u + 1) es)) : Inr w L x3 v u last hs pl ws (fun i => decide (i ≤ u)) (es.filter (fun p => decide (u < p.1))) := by
  refine h.congr (fun p _ => by simp [fB]; omega) ?_
  unfold esB
  apply List.filter_congr
  intro p _
  simp; omega

theorem Inr.noneB {j : Int} (h : Inr w L x3 v til last hs pl ws (fB j) (esB j es)) (hn : at? (esB j es) j = none) : Inr w L x3 v til last hs pl ws (fB (j + 1)) (esB (j + 1) es) := by
  have hne : ∀ p ∈ ws, p.2 ≠ j := by
    intro p hp e
    have : j ∈ (esB j es).map Prod.fst := (h.wt.key j).2 ⟨by simp [fB], p.1, by rw [← e]; exact hp⟩
    obtain ⟨q, hq, hqe⟩ := List.mem_map.1 this
    exact at?_none.1 hn q hq hqe
  refine h.congr (fun p hp => ?_) ?_
  · have := hne p hp
    simp only [fB]
    rw [Bool.eq_iff_iff]; simp; omega
  · unfold esB
    apply List.filter_congr
    intro p hp
    by_cases e : p.1 = j
    · have hm : p ∈ esB j es := List.mem_filter.2 ⟨hp, by simp [e]⟩
      exact absurd e (at?_none.1 hn p hm)
    · rw [Bool.eq_iff_iff]; simp; omega

theorem delL_esB (j : Int) (es : List (Int × Value)) : delL (esB j es) j = esB (j + 1) es := by
  unfold delL esB
  rw [List.filter_filter]
  apply List.filter_congr
  intro p _
  rw [Bool.eq_iff_iff]; simp; omega

theorem at?_some_mem {l : List (Int × Value)} {k : Int} {v : Value} (h : at? l k = some v) : (k, v) ∈ l := by
  unfold at? at h
  cases hf : l.find? (fun p => p.1 == k) with
  | none => rw [hf] at h; simp at h
  | some p =>
    rw [hf] at h
    simp at h
    have h1 := List.find?_some hf
    have h2 := List.mem_of_find?_eq_some hf
    simp at h1
    rw [← h1, ← h]; exact h2

/-- A step at an index for which something waits. -/
theorem Inr.someB {w1 w2 : World} {j : Int} {vv : Value} (h : Inr w L x3 v til last hs pl ws (fB j) (esB j es)) (hn : at? (esB j es) j = some vv) (t1 : Tch (blk ws j) w w1) (hfl : ∀ b ∈ blk ws j, FlagAt w1 b true) (t2 : Tch [L.qb] w1 w2) (hm : RMap .u64 w2 L.qb (delL (esB j es) j)) (hnd : (ws.map Prod.fst).Nodup) :
    Inr w2 L x3 v til last hs pl ws (fB (j + 1)) (esB (j + 1) es) ∧ Tch (L.qb :: ws.map Prod.fst) w w2 := by
  obtain ⟨h1, h2⟩ := h.notify j (List.mem_map.2 ⟨(j, vv), at?_some_mem hn, rfl⟩) t1 hfl t2 hm hnd
  refine ⟨h1.congr (fun p _ => ?_) (delL_esB j es), h2⟩
  simp only [fB]
  rw [Bool.eq_iff_iff]; simp; omega

/-- The slice at a key. -/
theorem WtAt.slice {qb : Nat} (h : WtAt w qb ws f es) {k : Int} {vv : Value} (hp : (k, vv) ∈ es) : ∃ g cap, vv = .slice (some ⟨g, 0, none⟩) (blk ws k).length cap ∧ w.ownsRow 0 51 1 (.slice (some ⟨g, 0, none⟩) (blk ws k).length cap) (blk ws k).length ((blk ws k).map ptr) := by
  obtain ⟨_, b, hb⟩ := h.keyOf hp
  have hlen : 0 < (blk ws k).length := List.length_pos_of_mem (mem_blk.2 hb)
  have hr := h.row _ hp
  obtain ⟨g, cap, hv, _, _⟩ := ownsRow_value hr hlen
  simp only at hv
  subst hv
  exact ⟨g, cap, rfl, hr⟩

/-- While the map is ranged over: those that are at most u and have come are told. -/
def fR (til u : Int) (left : List Int) (i : Int) : Bool := decide (i ≤ til) || (decide (i ≤ u) && !left.contains i)
def esR (u : Int) (left : List Int) (es : List (Int × Value)) : List (Int × Value) := es.filter (fun p => left.contains p.1 || decide (u < p.1))

theorem Inr.startR {til0 u : Int} (h : Inr w L x3 v til last hs pl ws (fun i => decide (i ≤ til0)) es) (htu : til0 ≤ u) : Inr w L x3 v til last hs pl ws (fR til0 u (es.map Prod.fst)) (esR u (es.map Prod.fst) es) := by
  refine h.congr (fun p hp => ?_) ?_
  · simp only [fR]
    rw [Bool.eq_iff_iff]
    simp only [decide_eq_true_eq, Bool.or_eq_true, Bool.and_eq_true, Bool.not_eq_true', List.contains_eq_mem, decide_eq_false_iff_not]
    constructor
    · exact .inl
    · rintro (a | ⟨a, b⟩)
      · exact a
      · by_cases hc : p.2 ≤ til0
        · exact hc
        · exact absurd ((h.wt.key p.2).2 ⟨by simpa using hc, p.1, hp⟩) b
  · unfold esR
    symm
    rw [List.filter_eq_self]
    intro p hp
    have : p.1 ∈ es.map Prod.fst := List.mem_map.2 ⟨p, hp, rfl⟩
    rw [List.contains_eq_mem]
    simp only [this, decide_true, Bool.true_or]

theorem Inr.endR {til0 u : Int} (htu : til0 ≤ u) (h : Inr w L x3 v u last hs pl ws (fR til0 u []) (esR u [] es)) : Inr w L x3 v u last hs pl ws (fun i => decide (i ≤ u)) (es.filter (fun p => decide (u < p.1))) := by
  refine h.congr (fun p _ => ?_) ?_
  · simp only [fR]
    rw [Bool.eq_iff_iff]; simp; omega
  · unfold esR
    apply List.filter_congr
    intro p _
    simp

/-- A key comes that is to be told no more: it is above u. -/
theorem Inr.keepR {til0 u : Int} {left : List Int} {k : Int} (h : Inr w L x3 v til last hs pl ws (fR til0 u left) (esR u left es)) (hk : u < k) : Inr w L x3 v til last hs pl ws (fR til0 u (left.filter (· != k))) (esR u (left.filter (· != k)) es) := by
  refine h.congr (fun p _ => ?_) ?_
  · simp only [fR]
    rw [Bool.eq_iff_iff]
    simp [List.contains_eq_mem]
    constructor
    · rintro (a | ⟨a, b⟩)
      · exact .inl a
      · exact .inr ⟨a, .inl b⟩
    · rintro (a | ⟨a, b | b⟩)
      · exact .inl a
      · exact .inr ⟨a, b⟩
      · omega
  · unfold esR
    apply List.filter_congr
    intro p _
    rw [Bool.eq_iff_iff]
    simp [List.contains_eq_mem]
    constructor
    · rintro (a | a)
      · by_cases e : p.1 = k
        · right; omega
        · exact .inl ⟨a, e⟩
      · exact .inr a
    · rintro (⟨a, _⟩ | a)
      · exact .inl a
      · exact .inr a

theorem esR_keep {u k : Int} (left : List Int) (es : List (Int × Value)) (hk : u < k) : esR u left es = esR u (left.filter (· != k)) es := by
  unfold esR
  apply List.filter_congr
  intro p _
  rw [Bool.eq_iff_iff]
  simp [List.contains_eq_mem]
  constructor
  · rintro (a | a)
    · by_cases e : p.1 = k
      · right; omega
      · exact .inl ⟨a, e⟩
    · exact .inr a
  · rintro (⟨a, _⟩ | a)
    · exact .inl a
    · exact .inr a

theorem delL_esR {u k : Int} (left : List Int) (es : List (Int × Value)) (hk : k ≤ u) : delL (esR u left es) k = esR u (left.filter (· != k)) es := by
  unfold delL esR
  rw [List.filter_filter]
  apply List.filter_congr
  intro p _
  rw [Bool.eq_iff_iff]
  simp [List.contains_eq_mem]
  constructor
  · rintro ⟨a, b | b⟩
    · exact .inl ⟨b, a⟩
    · exact .inr b
  · rintro (⟨a, b⟩ | a)
    · exact ⟨b, .inl a⟩
    · exact ⟨by omega, .inr a⟩

theorem Inr.tellR {w1 w2 : World} {til0 u : Int} {left : List Int} {k : Int} {vv : Value} (h : Inr w L x3 v til last hs pl ws (fR til0 u left) (esR u left es)) (hn : at? (esR u left es) k = some vv) (hk : k ≤ u) (t1 : Tch (blk ws k) w w1) (hfl : ∀ b ∈ blk ws k, FlagAt w1 b true) (t2 : Tch [L.qb] w1 w2) (hm : RMap .u64 w2 L.qb (delL (esR u left es) k)) (hnd : (ws.map Prod.fst).Nodup) :
    Inr w2 L x3 v til last hs pl ws (fR til0 u (left.filter (· != k))) (esR u (left.filter (· != k)) es) ∧ Tch (L.qb :: ws.map Prod.fst) w w2 := by
  obtain ⟨h1, h2⟩ := h.notify k (List.mem_map.2 ⟨(k, vv), at?_some_mem hn, rfl⟩) t1 hfl t2 hm hnd
  refine ⟨h1.congr (fun p _ => ?_) (delL_esR left es hk), h2⟩
  simp only [fR]
  rw [Bool.eq_iff_iff]
  simp [List.contains_eq_mem]
  constructor
  · rintro ((a | ⟨a, b⟩) | a)
    · exact .inl a
    · exact .inr ⟨a, .inl b⟩
    · exact .inr ⟨by omega, .inr a⟩
  · rintro (a | ⟨a, b | b⟩)
    · exact .inl (.inl a)
    · exact .inl (.inr ⟨a, b⟩)
    · exact .inr b

end

end Go.Proofs.Ytaheafmdkbobcaa
