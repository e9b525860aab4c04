/- removeEmpty: what is struck; the state between two children. -/
import Derived.Test.YtcolffccbmpndaaGreatDoorTrC
namespace Go.Proofs.YtcolffccbmpndaaGreatDoor
open Go.RowKit
set_option maxRecDepth 100000

/-- Below the hops of D no number-less node stands any longer. -/
noncomputable def halfC (C : Cont) (q : Path) (D : Hop → Prop) : Cont := fun p => open Classical in if (∃ s t, p = q ++ s :: t ∧ D s) ∧ ¬ Live C p then none else C p
theorem halfC_cases (C : Cont) (q : Path) (D : Hop → Prop) (p : Path) : halfC C q D p = C p ∨ (halfC C q D p = none ∧ ¬ Live C p) := by
  unfold halfC
  split
  · rename_i h; exact .inr ⟨rfl, h.2⟩
  · exact .inl rfl
theorem pruneC_cases (C : Cont) (q : Path) (p : Path) : pruneC C q p = C p ∨ (pruneC C q p = none ∧ ¬ Live C p) := by
  unfold pruneC
  split
  · rename_i h; exact .inr ⟨rfl, h.2⟩
  · exact .inl rfl
theorem half_live {C : Cont} {q : Path} {D : Hop → Prop} (p : Path) : Live (halfC C q D) p ↔ Live C p := live_strike (halfC_cases C q D) p
theorem half_all {C : Cont} {q : Path} {D : Hop → Prop} (h : ∀ s, D s) : halfC C q D = pruneC C q := by
  funext p
  unfold halfC pruneC
  have e : ((∃ s t, p = q ++ s :: t ∧ D s) ∧ ¬ Live C p) ↔ ((q <+: p ∧ p ≠ q) ∧ ¬ Live C p) := by
    refine and_congr ⟨?_, ?_⟩ Iff.rfl
    · rintro ⟨s, t, rfl, -⟩
      exact ⟨List.prefix_append _ _, fun e => by simpa using congrArg List.length e⟩
    · rintro ⟨⟨t, rfl⟩, h2⟩
      cases t with
      | nil => simp at h2
      | cons s t => exact ⟨s, t, rfl, h s⟩
  by_cases a : (∃ s t, p = q ++ s :: t ∧ D s) ∧ ¬ Live C p
  · rw [if_pos a, if_pos (e.1 a)]
  · rw [if_neg a, if_neg (fun h => a (e.2 h))]
theorem half_none {C : Cont} {q : Path} {D : Hop → Prop} (h : ∀ s, D s → C (q ++ [s]) = none) (hu : Up C) : halfC C q D = C := by
  funext p
  unfold halfC
  split
  · rename_i h1
    obtain ⟨⟨s, t, rfl, hD⟩, -⟩ := h1
    cases hC : C (q ++ s :: t) with
    | none => rfl
    | some l => exact absurd (h s hD) (hu.pre (q := q ++ [s]) (p := q ++ s :: t) ⟨t, by simp⟩ (by rw [hC]; simp))
  · rfl
theorem half_mono {C : Cont} {q : Path} {D D' : Hop → Prop} (hu : Up C) (h1 : ∀ s, D s → D' s) (h2 : ∀ s, D' s → ¬ D s → C (q ++ [s]) = none) : halfC C q D' = halfC C q D := by
  funext p
  unfold halfC
  by_cases a : (∃ s t, p = q ++ s :: t ∧ D s) ∧ ¬ Live C p
  · rw [if_pos a, if_pos ⟨by obtain ⟨⟨s, t, e, hD⟩, -⟩ := a; exact ⟨s, t, e, h1 s hD⟩, a.2⟩]
  · rw [if_neg a]
    split
    · rename_i h
      obtain ⟨⟨s, t, rfl, hD⟩, hl⟩ := h
      by_cases hd : D s
      · exact absurd ⟨⟨s, t, rfl, hd⟩, hl⟩ a
      · cases hC : C (q ++ s :: t) with
        | none => rfl
        | some l => exact absurd (h2 s hD hd) (hu.pre (q := q ++ [s]) (p := q ++ s :: t) ⟨t, by simp⟩ (by rw [hC]; simp))
    · rfl
/-- One hop more. -/
theorem half_step {C : Cont} {q : Path} {s : Hop} {D D' : Hop → Prop} (hD : ∀ u, D' u ↔ D u ∨ u = s) (hs : ¬ D s) :
    halfC C q D' = fun p => open Classical in if (q ++ [s]) <+: p ∧ ¬ Live C p then none else halfC C q D p := by
  funext p
  by_cases a : (q ++ [s]) <+: p
  · obtain ⟨t, rfl⟩ := pre_hop.1 a
    by_cases hl : Live C (q ++ s :: t)
    · rw [if_neg (fun h => h.2 hl)]
      unfold halfC
      rw [if_neg (fun h => h.2 hl), if_neg (fun h => h.2 hl)]
    · rw [if_pos ⟨a, hl⟩]
      unfold halfC
      rw [if_pos ⟨⟨s, t, rfl, (hD s).2 (.inr rfl)⟩, hl⟩]
  · rw [if_neg (fun h => a h.1)]
    unfold halfC
    have e : (∃ u t, p = q ++ u :: t ∧ D' u) ↔ (∃ u t, p = q ++ u :: t ∧ D u) := by
      constructor
      · rintro ⟨u, t, rfl, h⟩
        rcases (hD u).1 h with h | h
        · exact ⟨u, t, rfl, h⟩
        · subst h; exact absurd (pre_hop.2 ⟨t, rfl⟩) a
      · rintro ⟨u, t, rfl, h⟩; exact ⟨u, t, rfl, (hD u).2 (.inl h)⟩
    by_cases b : (∃ u t, p = q ++ u :: t ∧ D u) ∧ ¬ Live C p
    · rw [if_pos b, if_pos ⟨e.2 b.1, b.2⟩]
    · rw [if_neg b, if_neg (fun h => b ⟨e.1 h.1, h.2⟩)]

/-- What removeEmpty leaves, at q. -/
structure Rem (w : World) (base root : Nat) (N : Net) (q : Path) (w' : World) (N' : Net) (b : Bool) : Prop where
  tm : TM w' base root N'
  ct : cont N' = pruneC (cont N) q
  out : ∀ p, ¬ q <+: p → N' p = N p
  self : ∀ r, N q = some r → ∃ r', N' q = some r' ∧ r'.blk = r.blk
  t : Tof (fpAt N q) w w'
  fp : ∀ q0 k, fpAt N' q0 k → fpAt N q0 k
  dead : b = true ↔ ¬ Live (cont N) q

/-- Between two children. -/
structure Half (D : Hop → Prop) (w : World) (base root : Nat) (N : Net) (q : Path) (r : NRec) (w1 : World) (N1 : Net) (r1 : NRec) : Prop where
  tm : TM w1 base root N1
  ct : cont N1 = halfC (cont N) q D
  out : ∀ p, ¬ q <+: p → N1 p = N p
  at_ : N1 q = some r1
  blk : r1.blk = r.blk
  mb : r1.mb = r.mb
  v : r1.v = r.v
  ids : r1.ids = r.ids
  t : Tof (fpAt N q) w w1
  fp : ∀ q0 k, fpAt N1 q0 k → fpAt N q0 k

theorem fpAt_sub {N : Net} {q : Path} {t : Path} {k : Nat} (h : fpAt N (q ++ t) k) : fpAt N q k := by
  obtain ⟨u, r, h1, h2⟩ := h
  exact ⟨t ++ u, r, by rw [← List.append_assoc]; exact h1, h2⟩
theorem fpAt_all {N : Net} {q : Path} {k : Nat} (h : fpAt N q k) : fpAt N [] k := fpAt_sub (q := []) h
/-- A node's blocks are not below it. -/
theorem not_below {w : World} {base root : Nat} {N : Net} (h : TM w base root N) {q : Path} {r : NRec} (hq : N q = some r) {k : Nat} (hk : r.has k) (s : Hop) : ¬ fpAt N (q ++ [s]) k := by
  rintro ⟨t, r', h1, h2⟩
  have := h.one hq h1 hk h2
  have := congrArg List.length this
  simp at this

/-- A node and all below it struck. -/
def cutN (N : Net) (q : Path) (s : Hop) (r' : NRec) : Net := fun p => if (q ++ [s]) <+: p then none else if p = q then some r' else N p
theorem cutN_cut {N : Net} {q : Path} {s : Hop} {r' : NRec} {p : Path} (h : (q ++ [s]) <+: p) : cutN N q s r' p = none := by unfold cutN; rw [if_pos h]
theorem cutN_self {N : Net} {q : Path} {s : Hop} {r' : NRec} : cutN N q s r' q = some r' := by unfold cutN; rw [if_neg not_pre_snoc, if_pos rfl]
theorem cutN_other {N : Net} {q : Path} {s : Hop} {r' : NRec} {p : Path} (h : ¬ (q ++ [s]) <+: p) (h2 : p ≠ q) : cutN N q s r' p = N p := by unfold cutN; rw [if_neg h, if_neg h2]
theorem TM.cut {w w' : World} {base root : Nat} {N : Net} {q : Path} {s : Hop} {r r' : NRec} (h : TM w base root N) (hq : N q = some r) (hb : r'.blk = r.blk) (hm : r'.mb = r.mb) (hv : r'.v = r.v) {F : Nat → Prop} (t : Tof F w w') (hF : ∀ k, F k → r.has k) (hn : Nd w' base (cutN N q s r') q r') : TM w' base root (cutN N q s r') := by
  have key : ∀ x y, cutN N q s r' x = some y → ¬ (q ++ [s]) <+: x ∧ ∃ z, N x = some z ∧ y.blk = z.blk ∧ y.mb = z.mb ∧ y.v = z.v := fun x y hx => by
    by_cases a : (q ++ [s]) <+: x
    · rw [cutN_cut a] at hx; simp at hx
    · refine ⟨a, ?_⟩
      by_cases e : x = q
      · rw [e, cutN_self] at hx
        obtain rfl := Option.some.inj hx
        exact ⟨r, by rw [e]; exact hq, hb, hm, hv⟩
      · rw [cutN_other a e] at hx
        exact ⟨y, hx, rfl, rfl, rfl⟩
  refine ⟨?_, fun x y hx => ?_, fun x u hx => ?_, fun x x' y y' hx hx' hm' => ?_, Nat.le_trans h.size t.size⟩
  · obtain ⟨r0, h1, h2⟩ := h.root
    have a : ¬ (q ++ [s]) <+: [] := fun h => by have := List.prefix_nil.1 h; simp at this
    by_cases e : ([] : Path) = q
    · refine ⟨r', by rw [e]; exact cutN_self, ?_⟩
      rw [← e, h1] at hq
      rw [hb, ← Option.some.inj hq]; exact h2
    · exact ⟨r0, by rw [cutN_other a e]; exact h1, h2⟩
  · by_cases e : x = q
    · subst e
      rw [cutN_self] at hx
      obtain rfl := Option.some.inj hx
      exact hn
    · obtain ⟨a, -⟩ := key x y hx
      rw [cutN_other a e] at hx
      have hnd := h.node x y hx
      refine hnd.keep t (fun k hk hf => e (h.one hx hq hk (hF k hf))) (fun u => ?_)
      by_cases e2 : x ++ [u] = q
      · rw [e2, cutN_self, hq]; simp [hb]
      · have a2 : ¬ (q ++ [s]) <+: x ++ [u] := fun h1 => by
          rcases pre_snoc_iff.1 h1 with h2 | h2
          · exact a h2
          · exact e (snoc_inj h2).1.symm
        rw [cutN_other a2 e2]
  · rw [cont_ne] at *
    cases hc : cutN N q s r' (x ++ [u]) with
    | none => exact absurd hc hx
    | some y =>
      obtain ⟨a, z, hz, -⟩ := key _ _ hc
      have hx0 := cont_ne.1 (h.up x u (cont_ne.2 (by rw [hz]; simp)))
      have a2 : ¬ (q ++ [s]) <+: x := fun h1 => a (h1.trans (List.prefix_append _ _))
      by_cases e : x = q
      · rw [e, cutN_self]; simp
      · rw [cutN_other a2 e]; exact hx0
  · obtain ⟨-, z, z1, z2, z3, z4⟩ := key x y hx
    obtain ⟨-, z', z1', z2', z3', z4'⟩ := key x' y' hx'
    refine h.inj x x' z z' z1 z1' ?_
    unfold Meets at *
    rw [← z2, ← z3, ← z4, ← z2', ← z3', ← z4']
    exact hm'

end Go.Proofs.YtcolffccbmpndaaGreatDoor
