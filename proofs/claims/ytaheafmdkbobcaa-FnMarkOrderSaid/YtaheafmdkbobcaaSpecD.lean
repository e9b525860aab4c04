/- spec's finish: its laws. -/
import Derived.Test.YtaheafmdkbobcaaSpecC
namespace Go.Proofs.Ytaheafmdkbobcaa
open Go.RowKit

/-- The least of the first k. -/
def LeastI (all : List Cn) (k : Nat) (r : Int) : Prop := (k = 0 ∧ r = -1) ∨ ∃ (m : Nat) (p : Cn), r = m ∧ m < k ∧ all[m]? = some p ∧ ∀ j s, j < k → all[j]? = some s → p.1 ≤ s.1

theorem LeastI.first {all : List Cn} {p : Cn} (hp : all[0]? = some p) : LeastI all 1 0 :=
  .inr ⟨0, p, rfl, by omega, hp, fun j s hj hs => by
    have : j = 0 := by omega
    subst this
    rw [hp] at hs; simp at hs; subst hs; exact Int.le_refl _⟩

theorem LeastI.less {all : List Cn} {k m : Nat} {p s : Cn} (hm : m < k) (_ : all[m]? = some p) (hl : ∀ j s, j < k → all[j]? = some s → p.1 ≤ s.1) (hs : all[k]? = some s) (h : s.1 < p.1) : LeastI all (k + 1) k :=
  .inr ⟨k, s, rfl, by omega, hs, fun j r hj hr => by
    by_cases e : j = k
    · subst e; rw [hs] at hr; simp at hr; subst hr; exact Int.le_refl _
    · have := hl j r (by omega) hr; omega⟩

theorem LeastI.more {all : List Cn} {k m : Nat} {p s : Cn} (hm : m < k) (hp : all[m]? = some p) (hl : ∀ j s, j < k → all[j]? = some s → p.1 ≤ s.1) (hs : all[k]? = some s) (h : ¬ s.1 < p.1) : LeastI all (k + 1) m :=
  .inr ⟨m, p, rfl, by omega, hp, fun j r hj hr => by
    by_cases e : j = k
    · subst e; rw [hs] at hr; simp at hr; subst hr; omega
    · exact hl j r (by omega) hr⟩

theorem plOf_mem {all : List Cn} {p : Cn} (h : p ∈ all) : (p.1, p.2.1 - p.2.2) ∈ plOf all := List.mem_map.2 ⟨p, h, rfl⟩

theorem least_pl {all : List Cn} {p : Cn} (hl : ∀ j s, j < all.length → all[j]? = some s → p.1 ≤ s.1) : ∀ r ∈ plOf all, p.1 ≤ r.1 := by
  intro r hr
  obtain ⟨s, hs, rfl⟩ := List.mem_map.1 hr
  obtain ⟨j, hj, e⟩ := List.getElem_of_mem hs
  exact hl j s hj (by rw [List.getElem?_eq_getElem hj, e])

theorem erase_filterC : ∀ {all : List Cn} {m : Nat} {p : Cn}, (all.map Prod.fst).Nodup → all[m]? = some p → all.take m ++ all.drop (m + 1) = all.filter (fun s => s.1 != p.1)
  | [], m, p, _, h => by simp at h
  | a :: l, 0, p, hn, h => by
    have h : a = p := by simpa using h
    subst h
    rw [List.map_cons, List.nodup_cons] at hn
    rw [List.filter_cons_of_neg (by simp)]
    simp only [List.take_zero, List.nil_append, Nat.zero_add, List.drop_succ_cons, List.drop_zero]
    symm
    rw [List.filter_eq_self]
    intro s hs
    have : s.1 ≠ a.1 := fun e => hn.1 (e ▸ List.mem_map.2 ⟨s, hs, rfl⟩)
    simpa using this
  | a :: l, m + 1, p, hn, h => by
    have h : l[m]? = some p := by simpa using h
    rw [List.map_cons, List.nodup_cons] at hn
    have hne : a.1 ≠ p.1 := fun e => hn.1 (e ▸ List.mem_map.2 ⟨p, List.mem_of_getElem? h, rfl⟩)
    rw [List.filter_cons_of_pos (by simpa using hne), ← erase_filterC hn.2 h]
    rfl

theorem plOf_filter (all : List Cn) (x : Int) : plOf (all.filter (fun s => s.1 != x)) = (plOf all).filter (fun r => r.1 != x) := by
  unfold plOf
  rw [List.filter_map]; rfl

theorem flat_take (all : List Cn) (m : Nat) : (all.take m).flatMap cCells = (all.flatMap cCells).take (m * 3) := by
  induction all generalizing m with
  | nil => simp
  | cons a l ih =>
    cases m with
    | zero => simp
    | succ m =>
      rw [List.take_succ_cons, List.flatMap_cons, List.flatMap_cons, ih]
      have e : (m + 1) * 3 = (cCells a).length + m * 3 := by show _ = 3 + m * 3; omega
      rw [e, List.take_length_add_append]

theorem flat_drop (all : List Cn) (m : Nat) : (all.drop m).flatMap cCells = (all.flatMap cCells).drop (m * 3) := by
  induction all generalizing m with
  | nil => simp
  | cons a l ih =>
    cases m with
    | zero => simp
    | succ m =>
      rw [List.drop_succ_cons, List.flatMap_cons, ih]
      have e : (m + 1) * 3 = (cCells a).length + m * 3 := by show _ = 3 + m * 3; omega
      rw [e, List.drop_length_add_append]

end Go.Proofs.Ytaheafmdkbobcaa
