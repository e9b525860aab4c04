/- What notifyAndRemove does to a water mark in memory; the drain. -/
import Derived.Test.YtaheafmdkbobcaaOneB
namespace Go.Proofs.Ytaheafmdkbobcaa
open Go.RowKit
set_option linter.unusedVariables false

theorem Inr.congr {w : World} {L : Lay} {x3 v : Value} {til last : Int} {hs : List Int} {pl : List (Int × Int)} {ws : List (Nat × Int)} {f f' : Int → Bool} {es es' : List (Int × Value)} (h : Inr w L x3 v til last hs pl ws f es)
    (hf : ∀ p ∈ ws, f p.2 = f' p.2) (he : es = es') : Inr w L x3 v til last hs pl ws f' es' := by
  subst he
  refine ⟨h.core, h.hp, ⟨h.wt.map, h.wt.row, h.wt.apart, fun k => (h.wt.key k).trans ?_⟩, fun p hp => by rw [← hf p hp]; exact h.flag p hp⟩
  constructor
  · rintro ⟨a, b, hb⟩; exact ⟨by rw [← hf _ hb]; exact a, b, hb⟩
  · rintro ⟨a, b, hb⟩; exact ⟨by rw [hf _ hb]; exact a, b, hb⟩

theorem delL_sub {l : List (Int × Value)} {k : Int} : (delL l k).Sublist l := List.filter_sublist

/-- The waiters for k are told, and the entry is struck. -/
theorem Inr.notify {w w1 w2 : World} {L : Lay} {x3 v : Value} {til last : Int} {hs : List Int} {pl : List (Int × Int)} {ws : List (Nat × Int)} {f : Int → Bool} {es : List (Int × Value)} (h : Inr w L x3 v til last hs pl ws f es)
    (k : Int) (hk : k ∈ es.map Prod.fst) (t1 : Tch (blk ws k) w w1) (hfl : ∀ b ∈ blk ws k, FlagAt w1 b true) (t2 : Tch [L.qb] w1 w2) (hm : RMap .u64 w2 L.qb (delL es k)) (hnd : (ws.map Prod.fst).Nodup) :
    Inr w2 L x3 v til last hs pl ws (fun i => f i || i == k) (delL es k) ∧ Tch (L.qb :: ws.map Prod.fst) w w2 := by
  have T : Tch (L.qb :: ws.map Prod.fst) w w2 := (t1.mono (fun b _ hb => List.mem_cons_of_mem _ (List.mem_map.2 ⟨_, mem_blk.1 hb, rfl⟩))).head t2 (by simp)
  have hne : ∀ {b : Nat} {c : Array Value} {tt : TypeId}, w.heap[b]? = some (.cells c tt (0, 0)) → tt ≠ 56 → b ∉ L.qb :: ws.map Prod.fst := by
    intro b c tt hb h1 hmem
    rcases List.mem_cons.1 hmem with rfl | hmem
    · exact h.wt.map.ne_cells hb rfl
    · obtain ⟨p, hp, rfl⟩ := List.mem_map.1 hmem
      exact cells_ne hb (h.flag p hp) h1 rfl
  have hmapne : L.pb ∉ L.qb :: ws.map Prod.fst := by
    intro hmem
    rcases List.mem_cons.1 hmem with e | hmem
    · exact h.core.pq e
    · obtain ⟨p, hp, e⟩ := List.mem_map.1 hmem
      exact h.core.pend.ne_cells (h.flag p hp) e.symm
  refine ⟨⟨h.core.tch T (hne h.core.str (by decide)) hmapne (hne h.core.b1 (by decide)) (hne h.core.b2 (by decide)) (hne h.core.b3 (by decide)), h.hp.tch T (hne h.hp.box (by decide)) ?_, ⟨hm, ?_, ?_, ?_⟩, ?_⟩, T⟩
  · intro g hg
    obtain ⟨cur, hc⟩ := h.heapBlock hg
    exact hne hc (by decide)
  · intro p hp
    have hp' := delL_sub.subset hp
    refine T.own (h.wt.row p hp') (fun g hg => ?_)
    obtain ⟨cur, hc⟩ := ownsRow_block (h.wt.row p hp') hg
    exact hne hc (by decide)
  · exact (delL_sub.map _).nodup h.wt.apart
  · intro j
    have h1 : j ∈ (delL es k).map Prod.fst ↔ j ∈ es.map Prod.fst ∧ j ≠ k := by
      simp only [delL, List.mem_map, List.mem_filter]
      constructor
      · rintro ⟨p, ⟨hp, hpk⟩, rfl⟩; exact ⟨⟨p, hp, rfl⟩, by simpa using hpk⟩
      · rintro ⟨⟨p, hp, rfl⟩, hpk⟩; exact ⟨p, ⟨hp, by simpa using hpk⟩, rfl⟩
    rw [h1, h.wt.key j]
    simp only [Bool.or_eq_false_iff, beq_eq_false_iff_ne, ne_eq]
    constructor
    · rintro ⟨⟨a, b⟩, c⟩; exact ⟨⟨a, c⟩, b⟩
    · rintro ⟨⟨a, c⟩, b⟩; exact ⟨⟨a, b⟩, c⟩
  · intro p hp
    have hq2 : p.1 ≠ L.qb := fun e => h.wt.map.ne_cells (h.flag p hp) e.symm
    by_cases hpk : p.2 = k
    · have hb : p.1 ∈ blk ws k := mem_blk.2 (by rw [← hpk]; exact hp)
      have := t2.obj (hfl _ hb) (by simpa using hq2)
      simpa [FlagAt, hpk] using this
    · have hb : p.1 ∉ blk ws k := by
        intro hb
        have hb2 := mem_blk.1 hb
        have : p = (p.1, k) := nodup_at hnd hp hb2 rfl
        exact hpk (congrArg Prod.snd this)
      have := t2.obj (t1.obj (h.flag p hp) hb) (by simpa using hq2)
      have e : (f p.2 || p.2 == k) = f p.2 := by
        have : (p.2 == k) = false := by simpa using hpk
        rw [this, Bool.or_false]
      simp only [FlagAt] at this ⊢
      rw [e]; exact this

/-- The entry with the least key. -/
def minKey : List (Int × Int) → Option (Int × Int)
  | [] => none
  | p :: l => match minKey l with
    | none => some p
    | some q => if q.1 < p.1 then some q else some p

/-- The indices that are done are struck from the least one on. -/
def drainP : Nat → List (Int × Int) → Int → List (Int × Int) × Int
  | 0, pl, u => (pl, u)
  | n + 1, pl, u => match minKey pl with
    | none => (pl, u)
    | some p => if 0 < p.2 then (pl, u) else drainP n (pl.filter (fun q => q.1 != p.1)) p.1

theorem minKey_spec : ∀ {pl : List (Int × Int)} {p : Int × Int}, minKey pl = some p → p ∈ pl ∧ ∀ q ∈ pl, p.1 ≤ q.1
  | [], p, h => by simp [minKey] at h
  | a :: l, p, h => by
    unfold minKey at h
    cases hm : minKey l with
    | none =>
      rw [hm] at h
      simp at h; subst h
      have : l = [] := by
        cases l with
        | nil => rfl
        | cons b l' =>
          simp only [minKey] at hm
          split at hm
          · simp at hm
          · split at hm <;> simp at hm
      subst this; simp
    | some q =>
      rw [hm] at h
      obtain ⟨h1, h2⟩ := minKey_spec hm
      by_cases hc : q.1 < a.1
      · simp only [hc, if_true, Option.some.injEq] at h; subst h
        refine ⟨List.mem_cons_of_mem _ h1, fun r hr => ?_⟩
        rcases List.mem_cons.1 hr with rfl | hr
        · omega
        · exact h2 r hr
      · simp only [hc, if_false, Option.some.injEq] at h; subst h
        refine ⟨by simp, fun r hr => ?_⟩
        rcases List.mem_cons.1 hr with rfl | hr
        · omega
        · have := h2 r hr; omega

theorem minKey_some {pl : List (Int × Int)} (h : pl ≠ []) : ∃ p, minKey pl = some p := by
  cases pl with
  | nil => exact absurd rfl h
  | cons a l =>
    unfold minKey
    cases minKey l with
    | none => exact ⟨_, rfl⟩
    | some q => by_cases hc : q.1 < a.1 <;> simp [hc]

theorem minKey_of {pl : List (Int × Int)} (hn : (pl.map Prod.fst).Nodup) {p : Int × Int} (hp : p ∈ pl) (hl : ∀ q ∈ pl, p.1 ≤ q.1) : minKey pl = some p := by
  obtain ⟨q, hq⟩ := minKey_some (pl := pl) (by intro e; rw [e] at hp; simp at hp)
  obtain ⟨h1, h2⟩ := minKey_spec hq
  have h3 := hl q h1
  have h4 := h2 p hp
  have : q = p := nodup_at hn h1 hp (by omega)
  rw [hq, this]

theorem drain_nil (n : Nat) (u : Int) : drainP n [] u = ([], u) := by cases n <;> simp [drainP, minKey]
theorem drain_stop {pl : List (Int × Int)} (hn : (pl.map Prod.fst).Nodup) {p : Int × Int} (hp : p ∈ pl) (hl : ∀ q ∈ pl, p.1 ≤ q.1) (h : 0 < p.2) (n : Nat) (u : Int) : drainP n pl u = (pl, u) := by
  cases n with
  | zero => rfl
  | succ n => simp [drainP, minKey_of hn hp hl, h]
theorem drain_go {pl : List (Int × Int)} (hn : (pl.map Prod.fst).Nodup) {p : Int × Int} (hp : p ∈ pl) (hl : ∀ q ∈ pl, p.1 ≤ q.1) (h : ¬ 0 < p.2) (n : Nat) (u : Int) : drainP (n + 1) pl u = drainP n (pl.filter (fun q => q.1 != p.1)) p.1 := by
  simp [drainP, minKey_of hn hp hl, h]

theorem filter_keys_perm {pl : List (Int × Int)} {x : Int} {L : List Int} (hn : (pl.map Prod.fst).Nodup) (h : (x :: L).Perm (pl.map Prod.fst)) : L.Perm ((pl.filter (fun q => q.1 != x)).map Prod.fst) := by
  have e : (pl.filter (fun q => q.1 != x)).map Prod.fst = (pl.map Prod.fst).filter (· != x) := by rw [List.filter_map]; rfl
  rw [e]
  have h1 := h.filter (· != x)
  have hnd := h.nodup_iff.2 hn
  rw [List.nodup_cons] at hnd
  rw [List.filter_cons_of_neg (by simp)] at h1
  have : L.filter (· != x) = L := by
    rw [List.filter_eq_self]
    intro y hy
    have : y ≠ x := fun e => hnd.1 (e ▸ hy)
    simpa using this
  rw [this] at h1
  exact h1

end Go.Proofs.Ytaheafmdkbobcaa
