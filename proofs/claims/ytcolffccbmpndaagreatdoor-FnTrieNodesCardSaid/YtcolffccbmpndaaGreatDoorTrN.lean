/- New nodes; a node linked to another one; what a node's numbers become. -/
import Derived.Test.YtcolffccbmpndaaGreatDoorTrM
import Derived.Laws.Rows
import Derived.Carry
namespace Go.Proofs.YtcolffccbmpndaaGreatDoor
open Go.RowKit
set_option maxRecDepth 100000

/-- A node that was just made. -/
structure NewNd (w w' : World) (g : Nat) (c : NRec) : Prop where
  blk : c.blk = g
  ids : c.ids = []
  ch : c.ch = []
  cells : w'.heap[g]? = some (.cells #[.map (some c.mb), .pointer none, c.v] 86 (0, 0))
  map : RMap .u8 w' c.mb []
  row : w'.ownsRow w.heap.size 26 1 c.v 0 []
  lo : w.heap.size ≤ g ∧ w.heap.size ≤ c.mb
  t : Tch [] w w'

set_option maxHeartbeats 400000 in
theorem newNode_any (w : World) : Calls Tryz.prog 39 #[] w fun e w' => ∃ g c, e = .returned (ptr g) ∧ NewNd w w' g c := by
  have hmm := @run_makeMap Tryz.prog
  go_enter Tryz.func39, Tryz.ntmps39
  go_wp2_with fail
  go_ret
  have t1 : Tch [] w (w.alloc (.map #[] 0)) := (Tch.refl _ _).alloc _
  have t2 : Tch [] (w.alloc (.map #[] 0)) ((w.alloc (.map #[] 0)).alloc (.cells #[] 26)) := (Tch.refl _ _).alloc _
  have t3 := (Tch.refl [] ((w.alloc (.map #[] 0)).alloc (.cells #[] 26))).alloc (.cells #[Value.map (some w.heap.size), Value.pointer none, Value.slice (some ⟨w.heap.size + 1, 0, none⟩) 0 0] 86)
  have hz1 : (w.alloc (.map #[] 0)).heap.size = w.heap.size + 1 := by simp
  have hz2 : ((w.alloc (.map #[] 0)).alloc (.cells #[] 26)).heap.size = w.heap.size + 1 + 1 := by simp
  have ho := (Own.new (Tch.refl [] (w.alloc (.map #[] 0))) 26 1)
  rw [hz1] at ho
  have hc := heap_alloc_new ((w.alloc (.map #[] 0)).alloc (.cells #[] 26)) (.cells #[Value.map (some w.heap.size), Value.pointer none, Value.slice (some ⟨w.heap.size + 1, 0, none⟩) 0 0] 86)
  rw [hz2] at hc
  refine ⟨w.heap.size + 1 + 1, ⟨w.heap.size + 1 + 1, w.heap.size, [], .slice (some ⟨w.heap.size + 1, 0, none⟩) 0 0, []⟩, rfl, rfl, rfl, rfl, hc, ((RMap.made .u8 w).tch t2 (by simp)).tch t3 (by simp), ?_, ⟨by omega, Nat.le_refl _⟩, (t1.trans t2).trans t3⟩
  have := (t3.own ho.row (by simp))
  refine ⟨this.1, ?_⟩
  rcases this.2 with h | ⟨g, cap, cur, h1, h2, h3⟩
  · exact .inl h
  · exact .inr ⟨g, cap, cur, h1, by rw [hz1] at h2; omega, h3⟩

def setN (N : Net) (p : Path) (r : NRec) : Net := fun x => if x = p then some r else N x
theorem setN_same (N : Net) (p : Path) (r : NRec) : setN N p r p = some r := if_pos rfl
theorem setN_other (N : Net) {p x : Path} (r : NRec) (h : x ≠ p) : setN N p r x = N x := if_neg h

theorem snoc_ne (q : Path) (s : Hop) : q ++ [s] ≠ q := fun e => by simpa using congrArg List.length e
theorem snoc_inj {q q' : Path} {s s' : Hop} (h : q ++ [s] = q' ++ [s']) : q = q' ∧ s = s' := by
  have := List.append_inj' h rfl
  exact ⟨this.1, by simpa using this.2⟩

/-- A record changed at one node, its blocks kept or new. -/
theorem TM.set {w w' : World} {base root : Nat} {N : Net} {q : Path} {r r' : NRec} (h : TM w base root N) (hq : N q = some r) (hb : r'.blk = r.blk) (hm : r'.mb = r.mb) {F : Nat → Prop} (t : Tof F w w') (hF : ∀ k, F k → r.has k ∨ w.heap.size ≤ k)
    (hv : ∀ g, r'.v.ownBlock = some g → r.v.ownBlock = some g ∨ w.heap.size ≤ g) (hn : Nd w' base (setN N q r') q r') : TM w' base root (setN N q r') := by
  have hsame : ∀ x, (setN N q r' x).map (·.blk) = (N x).map (·.blk) := fun x => by
    by_cases e : x = q
    · rw [e, setN_same, hq]; simp [hb]
    · rw [setN_other N r' e]
  refine ⟨?_, fun x y hx => ?_, fun x s hx => ?_, fun x x' y y' hx hx' hm' => ?_, Nat.le_trans h.size t.size⟩
  · obtain ⟨r0, h1, h2⟩ := h.root
    by_cases e : ([] : Path) = q
    · refine ⟨r', by rw [← e, setN_same], ?_⟩
      rw [← e, h1] at hq
      rw [hb, ← Option.some.inj hq]; exact h2
    · exact ⟨r0, by rw [setN_other N r' e]; exact h1, h2⟩
  · by_cases e : x = q
    · subst e
      rw [setN_same] at hx
      obtain rfl := Option.some.inj hx
      exact hn
    · rw [setN_other N r' e] at hx
      have hnd := h.node x y hx
      exact hnd.keep t (fun k hk hf => by
        rcases hF k hf with h1 | h1
        · exact e (h.one hx hq hk h1)
        · have := (hnd.has_lo hk).2; omega) (fun s => hsame _)
  · rw [cont_ne] at *
    have := hsame (x ++ [s])
    have h2 := hsame x
    have h3 : N (x ++ [s]) ≠ none := fun e => by
      rw [e] at this
      cases h4 : setN N q r' (x ++ [s]) with
      | none => exact hx h4
      | some z => rw [h4] at this; simp at this
    have h4 := cont_ne.1 (h.up x s (cont_ne.2 h3))
    intro e
    rw [e] at h2
    cases h5 : N x with
    | none => exact h4 h5
    | some z => rw [h5] at h2; simp at h2
  · have key : ∀ x y, setN N q r' x = some y → ∃ z, N x = some z ∧ y.blk = z.blk ∧ y.mb = z.mb ∧ ∀ g, y.v.ownBlock = some g → z.v.ownBlock = some g ∨ (x = q ∧ w.heap.size ≤ g) := fun x y hx => by
      by_cases e : x = q
      · subst e
        rw [setN_same] at hx
        obtain rfl := Option.some.inj hx
        exact ⟨r, hq, hb, hm, fun g hg => (hv g hg).imp id (fun h => ⟨rfl, h⟩)⟩
      · rw [setN_other N r' e] at hx
        exact ⟨y, hx, rfl, rfl, fun g hg => .inl hg⟩
    obtain ⟨z, z1, z2, z3, z4⟩ := key x y hx
    obtain ⟨z', z1', z2', z3', z4'⟩ := key x' y' hx'
    rcases hm' with e | e | ⟨g, e, e'⟩
    · exact h.inj x x' z z' z1 z1' (.inl (by rw [← z2, e, z2']))
    · exact h.inj x x' z z' z1 z1' (.inr (.inl (by rw [← z3, e, z3'])))
    · rcases z4 g e with a | ⟨a, a2⟩ <;> rcases z4' g e' with b | ⟨b, b2⟩
      · exact h.inj x x' z z' z1 z1' (.inr (.inr ⟨g, a, b⟩))
      · have := ((h.node x z z1).has_lo (k := g) (.inr (.inr a))).2; omega
      · have := ((h.node x' z' z1').has_lo (k := g) (.inr (.inr b))).2; omega
      · rw [a, b]

/-- A new node under another one. -/
theorem TM.link {w w' : World} {base root : Nat} {N : Net} {q : Path} {s : Hop} {r r' c : NRec} (h : TM w base root N) (hq : N q = some r) (hs : N (q ++ [s]) = none) (hb : r'.blk = r.blk) (hm : r'.mb = r.mb) (hv : r'.v = r.v) {F : Nat → Prop} (t : Tof F w w') (hF : ∀ k, F k → r.has k)
    (hc : ∀ k, c.has k → w.heap.size ≤ k) (hnr : Nd w' base (setN (setN N q r') (q ++ [s]) c) q r') (hnc : Nd w' base (setN (setN N q r') (q ++ [s]) c) (q ++ [s]) c) : TM w' base root (setN (setN N q r') (q ++ [s]) c) := by
  have hne := snoc_ne q s
  have hsame : ∀ x, x ≠ q ++ [s] → (setN (setN N q r') (q ++ [s]) c x).map (·.blk) = (N x).map (·.blk) := fun x hx => by
    rw [setN_other _ c hx]
    by_cases e : x = q
    · rw [e, setN_same, hq]; simp [hb]
    · rw [setN_other N r' e]
  have key : ∀ x y, setN (setN N q r') (q ++ [s]) c x = some y → (x = q ++ [s] ∧ y = c) ∨ ∃ z, N x = some z ∧ y.blk = z.blk ∧ y.mb = z.mb ∧ y.v = z.v ∧ (x = q ∨ y = z) := fun x y hx => by
    by_cases e0 : x = q ++ [s]
    · subst e0
      rw [setN_same] at hx
      exact .inl ⟨rfl, (Option.some.inj hx).symm⟩
    · right
      rw [setN_other _ c e0] at hx
      by_cases e : x = q
      · subst e
        rw [setN_same] at hx
        obtain rfl := Option.some.inj hx
        exact ⟨r, hq, hb, hm, hv, .inl rfl⟩
      · rw [setN_other N r' e] at hx
        exact ⟨y, hx, rfl, rfl, rfl, .inr rfl⟩
  refine ⟨?_, fun x y hx => ?_, fun x u hx => ?_, fun x x' y y' hx hx' hm' => ?_, Nat.le_trans h.size t.size⟩
  · obtain ⟨r0, h1, h2⟩ := h.root
    have e0 : ([] : Path) ≠ q ++ [s] := by simp
    by_cases e : ([] : Path) = q
    · refine ⟨r', by rw [setN_other _ c e0, ← e, setN_same], ?_⟩
      rw [← e, h1] at hq
      rw [hb, ← Option.some.inj hq]; exact h2
    · exact ⟨r0, by rw [setN_other _ c e0, setN_other N r' e]; exact h1, h2⟩
  · by_cases e0 : x = q ++ [s]
    · subst e0
      rw [setN_same] at hx
      obtain rfl := Option.some.inj hx
      exact hnc
    · by_cases e : x = q
      · subst e
        rw [setN_other _ c e0, setN_same] at hx
        obtain rfl := Option.some.inj hx
        exact hnr
      · rw [setN_other _ c e0, setN_other N r' e] at hx
        have hnd := h.node x y hx
        exact hnd.keep t (fun k hk hf => e (h.one hx hq hk (hF k hf))) (fun u => hsame _ (fun e1 => e (snoc_inj e1).1))
  · rw [cont_ne] at *
    by_cases e1 : x ++ [u] = q ++ [s]
    · rw [(snoc_inj e1).1, setN_other _ c (Ne.symm hne), setN_same]; simp
    · have h1 := hsame _ e1
      have h3 : N (x ++ [u]) ≠ none := fun e => by
        rw [e] at h1
        cases h4 : setN (setN N q r') (q ++ [s]) c (x ++ [u]) with
        | none => exact hx h4
        | some z => rw [h4] at h1; simp at h1
      have h4 := cont_ne.1 (h.up x u (cont_ne.2 h3))
      have e2 : x ≠ q ++ [s] := fun e => h4 (by rw [e]; exact hs)
      have h2 := hsame x e2
      intro e
      rw [e] at h2
      cases h5 : N x with
      | none => exact h4 h5
      | some z => rw [h5] at h2; simp at h2
  · have old : ∀ x z y, N x = some z → y.blk = z.blk → y.mb = z.mb → y.v = z.v → ¬ Meets y c := fun x z y hz h1 h2 h3 hm => by
      have hl := fun k hk => ((h.node x z hz).has_lo (k := k) hk).2
      rcases hm with e | e | ⟨g, e, e'⟩
      · have := hc c.blk (.inl rfl); have := hl z.blk (.inl rfl); omega
      · have := hc c.mb (.inr (.inl rfl)); have := hl z.mb (.inr (.inl rfl)); omega
      · have := hc g (.inr (.inr e')); have := hl g (.inr (.inr (by rw [← h3]; exact e))); omega
    have sym : ∀ a b, Meets a b → Meets b a := fun a b hm => hm.imp Eq.symm (Or.imp Eq.symm (fun ⟨g, e, e'⟩ => ⟨g, e', e⟩))
    rcases key x y hx with ⟨rfl, rfl⟩ | ⟨z, z1, z2, z3, z4, -⟩ <;> rcases key x' y' hx' with ⟨rfl, rfl⟩ | ⟨z', z1', z2', z3', z4', -⟩
    · rfl
    · exact absurd (sym _ _ hm') (old x' z' y' z1' z2' z3' z4')
    · exact absurd hm' (old x z y z1 z2 z3 z4)
    · refine h.inj x x' z z' z1 z1' ?_
      unfold Meets at *
      rw [← z2, ← z3, ← z4, ← z2', ← z3', ← z4']
      exact hm'

end Go.Proofs.YtcolffccbmpndaaGreatDoor
