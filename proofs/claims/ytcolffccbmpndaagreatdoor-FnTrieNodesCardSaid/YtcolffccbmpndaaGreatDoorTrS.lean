/- What stands in a trie: numbers for paths; plain. -/
import Derived.Test.YtcolffccbmpndaaGreatDoorTrV
namespace Go.Proofs.YtcolffccbmpndaaGreatDoor
set_option maxRecDepth 100000

/-- What has been put in and not taken out, in order. -/
abbrev Stand := List (Path × Int)
def isNode (st : Stand) (q : Path) : Prop := q = [] ∨ ∃ x ∈ st, q <+: x.1
def idsAt (st : Stand) (q : Path) : List Int := (st.filter (fun x => decide (x.1 = q))).map (·.2)
noncomputable def Cst (st : Stand) : Cont := fun q => open Classical in if isNode st q then some (idsAt st q) else none
theorem Cst_some {st : Stand} {q : Path} (h : isNode st q) : Cst st q = some (idsAt st q) := by unfold Cst; rw [if_pos h]
theorem Cst_none {st : Stand} {q : Path} (h : ¬ isNode st q) : Cst st q = none := by unfold Cst; rw [if_neg h]
theorem isNode_of {st : Stand} {q : Path} : Cst st q ≠ none ↔ isNode st q := by
  by_cases h : isNode st q
  · rw [Cst_some h]; simp [h]
  · rw [Cst_none h]; simp [h]
theorem idsAt_mem {st : Stand} {q : Path} {x : Int} : x ∈ idsAt st q ↔ (q, x) ∈ st := by
  unfold idsAt
  simp only [List.mem_map, List.mem_filter, decide_eq_true_eq]
  constructor
  · rintro ⟨⟨a, b⟩, ⟨h1, rfl⟩, rfl⟩; exact h1
  · intro h; exact ⟨(q, x), ⟨h, rfl⟩, rfl⟩
theorem idsAt_nil {st : Stand} {q : Path} (h : ¬ isNode st q) : idsAt st q = [] := by
  rw [List.eq_nil_iff_forall_not_mem]
  intro x hx
  exact h (.inr ⟨_, idsAt_mem.1 hx, List.prefix_refl _⟩)
theorem idsAt_len (st : Stand) (q : Path) : (idsAt st q).length ≤ st.length := by
  unfold idsAt
  rw [List.length_map]
  exact List.length_filter_le _ _

theorem Cst_new : Cst [] = fun q => if q = [] then some [] else none := by
  funext q
  by_cases h : q = []
  · rw [Cst_some (.inl h), if_pos h]; rfl
  · rw [Cst_none (fun h1 => by rcases h1 with h1 | ⟨x, hx, -⟩; exact h h1; simp at hx), if_neg h]

/-- A number more. -/
theorem Cst_add (st : Stand) (p : Path) (id : Int) : addC (Cst st) p id = Cst (st ++ [(p, id)]) := by
  funext q
  have hid : idsAt (st ++ [(p, id)]) q = idsAt st q ++ if q = p then [id] else [] := by
    unfold idsAt
    rw [List.filter_append, List.map_append]
    congr 1
    by_cases e : q = p
    · simp [e]
    · have : ¬ p = q := fun h => e h.symm
      simp [e, this]
  unfold addC
  by_cases hp : q <+: p
  · rw [if_pos hp, Cst_some (st := st ++ [(p, id)]) (.inr ⟨(p, id), by simp, hp⟩), hid]
    congr 2
    by_cases h : isNode st q
    · rw [Cst_some h]; rfl
    · rw [Cst_none h, idsAt_nil h]; rfl
  · rw [if_neg hp]
    have hne : ¬ q = p := fun e => hp (by rw [e]; exact List.prefix_refl _)
    have hn : isNode (st ++ [(p, id)]) q ↔ isNode st q := by
      unfold isNode
      refine or_congr Iff.rfl ⟨?_, ?_⟩
      · rintro ⟨x, hx, hq⟩
        rcases List.mem_append.1 hx with hx | hx
        · exact ⟨x, hx, hq⟩
        · rw [List.mem_singleton.1 hx] at hq; exact absurd hq hp
      · rintro ⟨x, hx, hq⟩; exact ⟨x, by simp [hx], hq⟩
    by_cases h : isNode st q
    · rw [Cst_some h, Cst_some (hn.2 h), hid, if_neg hne, List.append_nil]
    · rw [Cst_none h, Cst_none (fun h1 => h (hn.1 h1))]

def strikeS (st : Stand) (p : Path) (id : Int) : Stand := st.filter (fun x => !(decide (x.1 = p) && (id == x.2)))
theorem idsAt_strike (st : Stand) (p : Path) (id : Int) (q : Path) : idsAt (strikeS st p id) q = if q = p then (idsAt st q).filter (fun x => id != x) else idsAt st q := by
  unfold idsAt strikeS
  rw [List.filter_filter]
  by_cases e : q = p
  · rw [if_pos e, List.filter_map, List.filter_filter]
    congr 1
    apply List.filter_congr
    intro x _
    by_cases h : x.1 = q
    · have : x.1 = p := by rw [h, e]
      simp [h, e, bne]
    · simp [h]
  · rw [if_neg e]
    congr 1
    apply List.filter_congr
    intro x _
    by_cases h : x.1 = q
    · have : ¬ x.1 = p := fun h2 => e (by rw [← h, h2])
      simp [h, e]
    · simp [h]
theorem live_stand {C : Cont} {st : Stand} {q : Path} (h : ∀ p, C p = none ∨ C p = some (idsAt st p)) (h2 : ∀ x ∈ st, C x.1 ≠ none) : Live C q ↔ ∃ x ∈ st, q <+: x.1 := by
  constructor
  · rintro ⟨t, l, h3, h4⟩
    rcases h (q ++ t) with h5 | h5
    · rw [h5] at h3; simp at h3
    · rw [h5] at h3
      obtain rfl := Option.some.inj h3
      cases hl : idsAt st (q ++ t) with
      | nil => exact absurd hl h4
      | cons x l => exact ⟨(q ++ t, x), idsAt_mem.1 (by rw [hl]; simp), List.prefix_append _ _⟩
  · rintro ⟨⟨p, x⟩, hx, ⟨t, rfl⟩⟩
    rcases h (q ++ t) with h5 | h5
    · exact absurd h5 (h2 _ hx)
    · exact ⟨t, _, h5, fun e => by have := idsAt_mem.2 hx; rw [e] at this; simp at this⟩
/-- A number struck, and what stands below no number let go. -/
theorem Cst_strike (st : Stand) (p : Path) (id : Int) : pruneC (delC (Cst st) p id) [] = Cst (strikeS st p id) := by
  have hC1 : ∀ q, isNode st q → delC (Cst st) p id q = some (idsAt (strikeS st p id) q) := by
    intro q h
    unfold delC
    rw [idsAt_strike, Cst_some h]
    by_cases e : q = p
    · rw [if_pos e, if_pos e]; rfl
    · rw [if_neg e, if_neg e]
  have hC0 : ∀ q, ¬ isNode st q → delC (Cst st) p id q = none := by
    intro q h
    unfold delC
    rw [Cst_none h]
    by_cases e : q = p
    · rw [if_pos e]; rfl
    · rw [if_neg e]
  have hsub : ∀ x ∈ strikeS st p id, x ∈ st := fun x hx => (List.mem_filter.1 hx).1
  have hL : ∀ q, Live (delC (Cst st) p id) q ↔ ∃ x ∈ strikeS st p id, q <+: x.1 := fun q => live_stand (fun q => by
    by_cases h : isNode st q
    · exact .inr (hC1 q h)
    · exact .inl (hC0 q h)) (fun x hx => by
    rw [hC1 x.1 (.inr ⟨x, hsub x hx, List.prefix_refl _⟩)]
    simp)
  funext q
  unfold pruneC
  by_cases h0 : q = []
  · subst h0
    rw [if_neg (fun h => h.1.2 rfl), hC1 _ (.inl rfl), Cst_some (.inl rfl)]
  · by_cases hl : Live (delC (Cst st) p id) q
    · obtain ⟨x, hx, hq⟩ := (hL q).1 hl
      rw [if_neg (fun h => h.2 hl), hC1 q (.inr ⟨x, hsub x hx, hq⟩), Cst_some (.inr ⟨x, hx, hq⟩)]
    · rw [if_pos ⟨⟨List.nil_prefix, h0⟩, hl⟩, Cst_none (fun h => by
        rcases h with h | h
        · exact h0 h
        · exact hl ((hL q).2 h))]

/-- What a key finds. -/
theorem Cst_found (st : Stand) (key : List Int) (x : Int) : Found (Cst st) [] key x ↔ ∃ y ∈ st, y.2 = x ∧ fitsP y.1 key = true := by
  constructor
  · rintro ⟨p, l, h1, h2, h3⟩
    rw [List.nil_append] at h1
    have hn : isNode st p := isNode_of.1 (by rw [h1]; simp)
    rw [Cst_some hn] at h1
    obtain rfl := Option.some.inj h1
    exact ⟨(p, x), idsAt_mem.1 h2, rfl, h3⟩
  · rintro ⟨⟨p, y⟩, h1, rfl, h3⟩
    exact ⟨p, idsAt st p, by rw [List.nil_append]; exact Cst_some (.inr ⟨_, h1, List.prefix_refl _⟩), idsAt_mem.2 h1, h3⟩

/-! All nodes. -/
def adds1 (l : List Path) (p : Path) : List Path := if p ∈ l then l else l ++ [p]
/-- All beginnings. -/
def initsP (p : Path) : List Path := (List.range (p.length + 1)).map (fun k => p.take k)
theorem initsP_len (p : Path) : (initsP p).length = p.length + 1 := by simp [initsP]
theorem mem_inits {p q : Path} : q ∈ initsP p ↔ q <+: p := by
  unfold initsP
  rw [List.mem_map]
  constructor
  · rintro ⟨k, -, rfl⟩; exact List.take_prefix _ _
  · intro h
    exact ⟨q.length, by have := h.length_le; simp; omega, (List.prefix_iff_eq_take.1 h).symm⟩
def nodesS (st : Stand) : List Path := (st.flatMap (fun x => initsP x.1)).foldl adds1 [[]]
theorem adds1_nodup {l : List Path} (h : l.Nodup) (p : Path) : (adds1 l p).Nodup := by
  unfold adds1
  split
  · exact h
  · rename_i hp
    rw [List.nodup_append]
    exact ⟨h, by simp, fun a ha b hb e => hp (by rw [List.mem_singleton] at hb; rw [← hb, ← e]; exact ha)⟩
theorem adds1_mem {l : List Path} {p q : Path} : q ∈ adds1 l p ↔ q ∈ l ∨ q = p := by
  unfold adds1
  split
  · rename_i hp
    exact ⟨.inl, fun h => by rcases h with h | rfl; exact h; exact hp⟩
  · simp
theorem foldl_adds (xs : List Path) : ∀ (l : List Path), l.Nodup → (xs.foldl adds1 l).Nodup ∧ (∀ q, q ∈ xs.foldl adds1 l ↔ q ∈ l ∨ q ∈ xs) ∧ (xs.foldl adds1 l).length ≤ l.length + xs.length := by
  induction xs with
  | nil => intro l h; exact ⟨h, fun q => by simp, by simp⟩
  | cons x t ih =>
    intro l h
    obtain ⟨h1, h2, h3⟩ := ih (adds1 l x) (adds1_nodup h x)
    refine ⟨h1, fun q => ?_, ?_⟩
    · rw [List.foldl_cons, h2 q, adds1_mem]; simp [or_assoc]
    · rw [List.foldl_cons]
      have : (adds1 l x).length ≤ l.length + 1 := by unfold adds1; split <;> simp
      simp only [List.length_cons]
      omega
theorem nodesS_nodup (st : Stand) : (nodesS st).Nodup := (foldl_adds _ [[]] (by simp)).1
theorem nodesS_mem (st : Stand) (q : Path) : q ∈ nodesS st ↔ isNode st q := by
  unfold nodesS isNode
  rw [(foldl_adds _ [[]] (by simp)).2.1 q]
  simp only [List.mem_singleton, List.mem_flatMap, mem_inits]
/-- How many bytes the paths have in all. -/
def sizeS (st : Stand) : Nat := (st.map (fun x => x.1.length)).sum
theorem nodesS_len (st : Stand) : (nodesS st).length ≤ 1 + sizeS st + st.length := by
  have h := (foldl_adds (st.flatMap (fun x => initsP x.1)) [[]] (by simp)).2.2
  have h2 : (st.flatMap (fun x => initsP x.1)).length = sizeS st + st.length := by
    unfold sizeS
    induction st with
    | nil => rfl
    | cons x t ih =>
      simp only [List.flatMap_cons, List.length_append, List.map_cons, List.sum_cons, List.length_cons, initsP_len, ih ((foldl_adds _ [[]] (by simp)).2.2)]
      omega
  unfold nodesS
  rw [h2] at h
  simpa [Nat.add_assoc] using h
theorem cntP_root (PS : List Path) : cntP PS [] = PS.length := by
  unfold cntP
  induction PS with
  | nil => rfl
  | cons p t ih => rw [List.map_cons, List.sum_cons, List.length_cons, ih, if_pos List.nil_prefix, Nat.add_comm]
theorem depth_of {st : Stand} {N : Net} (h : cont N = Cst st) : ∀ t, N ([] ++ t) ≠ none → t.length ≤ sizeS st := by
  intro t ht
  rw [List.nil_append] at ht
  have := isNode_of.1 (by rw [← h]; exact cont_ne.2 ht)
  rcases this with rfl | ⟨x, hx, hp⟩
  · simp
  · refine Nat.le_trans hp.length_le ?_
    unfold sizeS
    clear h ht hp
    induction st with
    | nil => simp at hx
    | cons y l ih =>
      simp only [List.map_cons, List.sum_cons]
      rcases List.mem_cons.1 hx with rfl | hx
      · omega
      · have := ih hx; omega
theorem strikeS_sub (st : Stand) (p : Path) (id : Int) : (strikeS st p id).length ≤ st.length ∧ sizeS (strikeS st p id) ≤ sizeS st := by
  refine ⟨List.length_filter_le _ _, ?_⟩
  unfold sizeS strikeS
  induction st with
  | nil => simp
  | cons y l ih =>
    rw [List.filter_cons]
    split
    · simp only [List.map_cons, List.sum_cons]; omega
    · simp only [List.map_cons, List.sum_cons]; omega

end Go.Proofs.YtcolffccbmpndaaGreatDoor
