/- Lists of priorities: what the reference's loops do; plain. -/
import Derived.Test.YtdofgamahjmohaaFpQ
namespace Go.Proofs.Ytdofgamahjmohaa
set_option maxRecDepth 100000

theorem while_take {α : Type} (p : α → Bool) : ∀ (l : List α) (k : Nat), k ≤ l.length → (∀ j (h : j < l.length), j < k → p l[j] = true) → (∀ h : k < l.length, p l[k] = false) → l.takeWhile p = l.take k ∧ l.dropWhile p = l.drop k
  | [], k, hk, _, _ => by
    obtain rfl : k = 0 := by simpa using hk
    exact ⟨rfl, rfl⟩
  | x :: l, 0, _, _, h2 => by
    have := h2 (by simp)
    simp only [List.getElem_cons_zero] at this
    simp [this]
  | x :: l, k + 1, hk, h1, h2 => by
    have h0 := h1 0 (by simp) (by omega)
    simp only [List.getElem_cons_zero] at h0
    obtain ⟨e1, e2⟩ := while_take p l k (by simpa using hk) (fun j h hj => by have := h1 (j + 1) (by simpa using h) (by omega); rwa [List.getElem_cons_succ] at this) (fun h => by have := h2 (by simpa using h); rwa [List.getElem_cons_succ] at this)
    simp [h0, e1, e2]

/-- The runs of a plan, as far as Pick looks at them: a level, a size. -/
def dOf (rs : List (Option (Nat × Int × Nat))) (i : Nat) : Int := (rs.map (fun r => match r with | some (l, s, _) => if l = i then s else 0 | none => 0)).sum
theorem dOf_succ {rs : List (Option (Nat × Int × Nat))} {k : Nat} (h : k < rs.length) (i : Nat) : dOf (rs.take (k + 1)) i = dOf (rs.take k) i + (match rs[k] with | some (l, s, _) => if l = i then s else 0 | none => 0) := by
  unfold dOf
  rw [List.take_succ_eq_append_getElem h, List.map_append, List.sum_append]
  simp
theorem dOf_bound {rs : List (Option (Nat × Int × Nat))} {B : Int} (hB : 0 ≤ B) (h : ∀ l s g, some (l, s, g) ∈ rs → 0 ≤ s ∧ s ≤ B) (i : Nat) : ∀ k, k ≤ rs.length → 0 ≤ dOf (rs.take k) i ∧ dOf (rs.take k) i ≤ k * B
  | 0, _ => by simp [dOf]
  | k + 1, hk => by
    have ih := dOf_bound hB h i k (by omega)
    rw [dOf_succ (by omega) i]
    have hm := List.getElem_mem (l := rs) (n := k) (by omega)
    have e : ((k + 1 : Nat) : Int) * B = k * B + B := by rw [Int.natCast_add, Int.add_mul]; simp
    rw [e]
    cases hr : rs[k] with
    | none => simp only; omega
    | some q =>
      obtain ⟨l, s, g⟩ := q
      rw [hr] at hm
      have := h l s g hm
      simp only
      split <;> omega

end Go.Proofs.Ytdofgamahjmohaa
