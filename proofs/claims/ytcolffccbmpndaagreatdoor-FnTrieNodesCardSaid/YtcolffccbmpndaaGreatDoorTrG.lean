/- (*Trie).get: the numbers below a node that a key finds. -/
import Derived.Test.YtcolffccbmpndaaGreatDoorTrD
namespace Go.Proofs.YtcolffccbmpndaaGreatDoor
open Go.RowKit Go.Deep
set_option maxRecDepth 100000

theorem assertTrue_any (w : World) : Calls Tryz.prog 40 #[.bool true] w fun e w' => e = .returned (.tuple #[]) ∧ w' = w := by
  go_enter Tryz.func40, Tryz.ntmps40
  go_wp2_with fail
  go_end0
  exact ⟨rfl, rfl⟩

def keysL (L : List (Int × Value)) : List Int := L.map Prod.fst
theorem keysL_put (L : List (Int × Value)) (k x : Int) (v : Value) : x ∈ keysL (putL L k v) ↔ x ∈ keysL L ∨ x = k := by
  unfold putL keysL
  by_cases h : (at? L k).isSome
  · rw [if_pos h]
    have hk : k ∈ L.map Prod.fst := by
      unfold at? at h
      rw [Option.isSome_map] at h
      obtain ⟨p, hp⟩ := Option.isSome_iff_exists.1 h
      have h1 := List.find?_some hp
      have h2 := List.mem_of_find?_eq_some hp
      exact List.mem_map.2 ⟨p, h2, by simpa using h1⟩
    have e : (L.map (fun p => if p.1 = k then (k, v) else p)).map Prod.fst = L.map Prod.fst := by
      rw [List.map_map]
      apply List.map_congr_left
      intro p _
      by_cases e : p.1 = k
      · simp [e]
      · simp [e]
    rw [e]
    constructor
    · exact .inl
    · rintro (h | rfl)
      · exact h
      · exact hk
  · rw [if_neg h]
    simp

/-- What get tells. -/
def Got (G : Int → Prop) (w : World) (e : Ending) (w' : World) : Prop :=
  ∃ m L, e = .returned (.map (some m)) ∧ RMap .u64 w' m L ∧ (∀ x, x ∈ keysL L ↔ G x) ∧ Tch [] w w' ∧ w.heap.size ≤ m

/-- An iterator is no map. -/
theorem RIter.ne_map {q : IntKind} {w : World} {r b : Nat} {l : List (Int × Value)} {left : List Int} (h : RIter q w r b l left) : r ≠ b := by
  obtain ⟨es, clk, since, seen, c0, h1, h2, h3, h4, h5⟩ := h
  intro e
  rw [e, h1] at h4
  simp at h4

theorem By.tail {w : World} {x : Int} {l : List Int} {ad : Addr} {c : Nat} (h : By w (x :: l) (some ad) c) : By w l (some (if 1 = c then ad else ad.add 1)) (c - 1) := by
  have h1 := h.cap
  simp at h1
  refine ⟨by omega, by simp, fun ad' hd j hj => ?_, fun y hy => h.u8 y (by simp [hy])⟩
  simp only [Option.some.injEq] at hd
  subst hd
  by_cases e : 1 = c
  · omega
  · rw [if_neg e]
    have := h.cell ad rfl (j + 1) (by simp; omega)
    rw [show (ad.add 1).add j = ad.add (j + 1) by unfold Addr.add; split <;> simp_all <;> omega]
    rw [add_block]
    simpa using this

end Go.Proofs.YtcolffccbmpndaaGreatDoor
