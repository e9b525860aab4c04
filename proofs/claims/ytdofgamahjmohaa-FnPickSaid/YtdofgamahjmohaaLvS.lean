/- sort.Slice over tables that are in order already: nothing turns. -/
import Derived.Test.YtdofgamahjmohaaLvR
import Derived.Sort.LotA
namespace Go.Proofs.Ytdofgamahjmohaa
open Go.Shelf Go.RowKit Go.Lib Go.Sort
set_option maxRecDepth 100000

theorem sorted_same {α : Type} [Inhabited α] {lt : α → α → Bool} (hO : SWO lt) {d d' : Array α} (hP : PermIn 0 d.size d d') (hS : SortedIn lt 0 d.size d') (hs : ∀ i j, i < j → j < d.size → lt d[i]! d[j]! = true) : d' = d := by
  obtain ⟨hsz, -, hperm⟩ := hP
  have e1 : d'.extract 0 d.size = d' := by rw [← hsz]; exact Array.extract_size
  rw [e1, Array.extract_size] at hperm
  apply Array.ext'
  have strict : ∀ (i j : Nat) (hi : i < d.size) (hj : j < d.size), i < j → lt d[i] d[j] = true := fun i j hi hj hij => by
    have := hs i j hij hj
    rw [getElem!_pos d i hi, getElem!_pos d j hj] at this
    exact this
  have asym : ∀ x y, lt x y = true → lt y x = true → False := fun x y h1 h2 => by
    have := hO.trans x y x h1 h2
    rw [hO.irrefl] at this
    exact absurd this (by decide)
  refine List.Perm.eq_of_pairwise (le := fun x y => (!lt y x) = true) ?_ ?_ ?_ hperm
  · intro a b ha hb h1 h2
    have ha : a ∈ d.toList := hperm.subset ha
    obtain ⟨i, hi, rfl⟩ := List.mem_iff_getElem.1 ha
    obtain ⟨j, hj, rfl⟩ := List.mem_iff_getElem.1 hb
    rcases Nat.lt_trichotomy i j with h | h | h
    · have := strict i j (by simpa using hi) (by simpa using hj) h
      simp at h1 h2
      rw [h2] at this; exact absurd this (by decide)
    · subst h; rfl
    · have := strict j i (by simpa using hj) (by simpa using hi) h
      simp at h1 h2
      rw [h1] at this; exact absurd this (by decide)
  · rw [List.pairwise_iff_getElem]
    intro i j hi hj hij
    have hi' : i < d'.size := by simpa using hi
    have hj' : j < d'.size := by simpa using hj
    have := hS i j (Nat.zero_le _) hij (by omega)
    rw [getElem!_pos d' j hj', getElem!_pos d' i hi'] at this
    simpa using this
  · rw [List.pairwise_iff_getElem]
    intro i j hi hj hij
    have := strict i j (by simpa using hi) (by simpa using hj) hij
    simp only [Bool.not_eq_true']
    cases h : lt d.toList[j] d.toList[i] with
    | false => rfl
    | true => exact (asym _ _ this (by simpa using h)).elim

theorem sw_tch {α : Type} [Inhabited α] (enc : α → Value) (W : World) (blk off m : Nat) (dk : Array α) (os : Array Obj) : Tch [blk] W (sortWorld enc W blk off m dk os) := by
  refine ⟨rfl, rfl, ?_, fun k hk hm => ?_⟩
  · show W.heap.size ≤ ((W.heap.modify blk _) ++ os).size
    rw [Array.size_append, Array.size_modify]; omega
  · show ((W.heap.modify blk _) ++ os)[k]? = W.heap[k]?
    rw [Array.getElem?_append_left (by rw [Array.size_modify]; exact hk), Array.getElem?_modify, if_neg (fun e => hm (by simp [e]))]

theorem kcmp_le {a b c : Kv} (h1 : kcmp a b ≤ 0) (h2 : kcmp b c ≤ 0) : kcmp a c ≤ 0 := by
  unfold kcmp at *
  have t := @cmpI_trans a.key b.key c.key
  by_cases e1 : cmpI a.key b.key = 0
  · have q1 := cmpI_eq e1
    rw [if_pos e1] at h1
    rw [q1]
    by_cases e2 : cmpI b.key c.key = 0
    · rw [if_pos e2] at h2 ⊢
      unfold sg at *
      repeat' split at h1
      all_goals (repeat' split at h2)
      all_goals (repeat' split)
      all_goals omega
    · rw [if_neg e2] at h2 ⊢
      exact h2
  · rw [if_neg e1] at h1
    by_cases e2 : cmpI b.key c.key = 0
    · have q2 := cmpI_eq e2
      rw [← q2, if_neg e1]; exact h1
    · rw [if_neg e2] at h2
      have := t (by omega) (by omega)
      rw [if_neg (by omega)]; omega
theorem kcmp_self (a : Kv) : kcmp a a = 0 := by
  have := kcmp_anti a a
  omega
theorem kcmp_lt {a b c : Kv} (h1 : kcmp a b < 0) (h2 : kcmp b c < 0) : kcmp a c < 0 := by
  have h := kcmp_le (Int.le_of_lt h1) (Int.le_of_lt h2)
  by_cases e : kcmp a c = 0
  · have e2 := kcmp_anti a c
    have h3 := kcmp_le (a := c) (b := a) (c := b) (by omega) (Int.le_of_lt h1)
    have h4 := kcmp_anti b c
    omega
  · omega

/-- Tables by pointers: what each is. -/
abbrev PT (W : World) (_ : Nat) := { p : Nat × Tb // PtBox W p.1 p.2 ∧ p.2.good }
def encP {W : World} {blk : Nat} (p : PT W blk) : Value := ptr p.1.1
def lt0 {W : World} {blk : Nat} (p q : PT W blk) : Bool := decide (p.1.2.num < q.1.2.num)
def lt1 {W : World} {blk : Nat} (p q : PT W blk) : Bool := decide (kcmp p.1.2.k1 q.1.2.k1 < 0)
theorem swo0 (W : World) (blk : Nat) : SWO (lt0 (W := W) (blk := blk)) :=
  ⟨fun x => by simp [lt0], fun x y z h1 h2 => by simp only [lt0, decide_eq_true_eq] at *; omega, fun x y z h1 h2 => by simp only [lt0, decide_eq_false_iff_not] at *; omega⟩
theorem swo1 (W : World) (blk : Nat) : SWO (lt1 (W := W) (blk := blk)) :=
  ⟨fun x => by simp [lt1, kcmp_self], fun x y z h1 h2 => by simp only [lt1, decide_eq_true_eq] at *; exact kcmp_lt h1 h2, fun x y z h1 h2 => by
    simp only [lt1, decide_eq_false_iff_not] at *
    have a1 := kcmp_anti x.1.2.k1 y.1.2.k1
    have a2 := kcmp_anti y.1.2.k1 z.1.2.k1
    have a3 := kcmp_anti x.1.2.k1 z.1.2.k1
    have := kcmp_le (a := z.1.2.k1) (b := y.1.2.k1) (c := x.1.2.k1) (by omega) (by omega)
    omega⟩

theorem own_holds {W : World} {blk n c : Nat} {e : TypeId} {vs : List Value} (h : W.ownsRow 0 e 1 (.slice (some ⟨blk, 0, none⟩) n c) n vs) {j : Nat} {u : Value} (hj : vs[j]? = some u) : W.cell? ⟨blk, 0 + j, none⟩ = some u ∧ W.frozen? ⟨blk, 0 + j, none⟩ = false := by
  have h1 := (own_cell h hj).2
  have e1 : (⟨blk, 0, none⟩ : Addr).add j = ⟨blk, j, none⟩ := by unfold Addr.add; split <;> simp_all
  rw [e1] at h1
  rw [Nat.zero_add]
  refine ⟨h1, ?_⟩
  obtain ⟨-, ⟨h, -⟩ | ⟨g, cap, cur, h, hb, hc, -⟩⟩ := h
  · simp at h
  · obtain ⟨rfl, rfl⟩ : blk = g ∧ c = cap := by simpa using h
    have hx : ∃ v, W.cell? ⟨blk, j, none⟩ = some v := ⟨_, h1⟩
    simp only [World.frozen?, hc]
    first | rfl | simp | (simp; omega)

end Go.Proofs.Ytdofgamahjmohaa
