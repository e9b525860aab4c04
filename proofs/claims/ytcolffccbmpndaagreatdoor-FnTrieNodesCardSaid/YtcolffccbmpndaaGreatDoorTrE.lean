/- removeEmpty: a child more; isEmpty walked. -/
import Derived.Test.YtcolffccbmpndaaGreatDoorTrR
namespace Go.Proofs.YtcolffccbmpndaaGreatDoor
open Go.RowKit Go.Deep
set_option maxRecDepth 100000

theorem Half.begin {w : World} {base root : Nat} {N : Net} {q : Path} {r : NRec} (h : TM w base root N) (hq : N q = some r) : Half (fun _ => False) w base root N q r w N r :=
  ⟨h, (half_none (fun _ h => h.elim) h.up).symm, fun _ _ => rfl, hq, rfl, rfl, rfl, rfl, Tof.refl _ _, fun _ _ h => h⟩
theorem Half.none_of {D : Hop → Prop} {w w1 : World} {base root : Nat} {N N1 : Net} {q : Path} {r r1 : NRec} (h : Half D w base root N q r w1 N1 r1) {p : Path} (hp : N1 p ≠ none) : N p ≠ none := by
  have h1 := cont_ne.2 hp
  rw [h.ct] at h1
  rcases halfC_cases (cont N) q D p with e | ⟨e, -⟩
  · rw [e] at h1; exact cont_ne.1 h1
  · exact absurd e h1
theorem Half.more {D D' : Hop → Prop} {w w1 : World} {base root : Nat} {N N1 : Net} {q : Path} {r r1 : NRec} (h : Half D w base root N q r w1 N1 r1) (hu : Up (cont N)) (h1 : ∀ s, D s → D' s) (h2 : ∀ s, D' s → ¬ D s → N1 (q ++ [s]) = none) : Half D' w base root N q r w1 N1 r1 := by
  refine { h with ct := ?_ }
  rw [h.ct]
  refine (half_mono hu h1 (fun s hs hd => ?_)).symm
  have := cont_none.2 (h2 s hs hd)
  rw [h.ct] at this
  rcases halfC_cases (cont N) q D (q ++ [s]) with e | ⟨-, e⟩
  · rw [e] at this; exact this
  · unfold halfC at this
    rw [if_neg (fun hx => by
      obtain ⟨⟨u, t, e1, hD⟩, -⟩ := hx
      have := List.append_cancel_left e1
      simp at this
      rw [← this.1] at hD
      exact hd hD)] at this
    exact this
theorem Half.live {D : Hop → Prop} {w w1 : World} {base root : Nat} {N N1 : Net} {q : Path} {r r1 : NRec} (h : Half D w base root N q r w1 N1 r1) (p : Path) : Live (cont N1) p ↔ Live (cont N) p := by
  rw [h.ct]; exact half_live p
/-- The world goes on beside the trie. -/
theorem Half.go {D : Hop → Prop} {w w1 w2 : World} {base root : Nat} {N N1 : Net} {q : Path} {r r1 : NRec} (h : Half D w base root N q r w1 N1 r1) {F : Nat → Prop} (t : Tof F w1 w2) (hF : ∀ k, F k → w.heap.size ≤ k) (h0 : TM w base root N) : Half D w base root N q r w2 N1 r1 := by
  refine { h with tm := h.tm.tof t (fun p y hp k hk hf => ?_), t := h.t.trans t (fun i hi hf => absurd (hF i hf) (by omega)) }
  have h1 := hF k hf
  have h2 := (h0.fp_lt (fpAt_all (h.fp [] k ⟨p, y, by simpa using hp, hk⟩))).2
  omega

theorem q_not (q : Path) (s : Hop) : ¬ (q ++ [s]) <+: q := not_pre_snoc
/-- A child that stays. -/
theorem Half.keep {D D' : Hop → Prop} {w w1 w2 : World} {base root : Nat} {N N1 N2 : Net} {q : Path} {r r1 : NRec} {s : Hop} (h : Half D w base root N q r w1 N1 r1) (hR : Rem w1 base root N1 (q ++ [s]) w2 N2 false) (hD : ∀ u, D' u ↔ D u ∨ u = s) (hs : ¬ D s) : Half D' w base root N q r w2 N2 r1 := by
  have hl : Live (cont N1) (q ++ [s]) := by
    have := hR.dead
    simp only [Bool.false_eq_true, false_iff, Classical.not_not] at this
    exact this
  refine ⟨hR.tm, ?_, fun p hp => ?_, ?_, h.blk, h.mb, h.v, h.ids, h.t.trans hR.t (fun i _ hi => h.fp q i (fpAt_sub hi)), fun q0 k hk => h.fp q0 k (hR.fp q0 k hk)⟩
  · rw [hR.ct, half_step hD hs, ← h.ct]
    funext p
    unfold pruneC
    have hlp := h.live p
    by_cases a : (q ++ [s]) <+: p ∧ ¬ Live (cont N) p
    · rw [if_pos a, if_pos ⟨⟨a.1, fun e => a.2 (by rw [← hlp, e]; exact hl)⟩, fun h1 => a.2 (hlp.1 h1)⟩]
    · rw [if_neg a, if_neg (fun h1 => a ⟨h1.1.1, fun h2 => h1.2 (hlp.2 h2)⟩)]
  · rw [hR.out p (fun h1 => hp ((List.prefix_append _ _).trans h1)), h.out p hp]
  · rw [hR.out q (q_not q s)]; exact h.at_
/-- A child that is struck. -/
theorem Half.strike {D D' : Hop → Prop} {w w1 w2 w3 : World} {base root : Nat} {N N1 N2 : Net} {q : Path} {r r1 r' : NRec} {s : Hop} (h : Half D w base root N q r w1 N1 r1) (hR : Rem w1 base root N1 (q ++ [s]) w2 N2 true) (hD : ∀ u, D' u ↔ D u ∨ u = s) (hs : ¬ D s)
    (hb : r'.blk = r1.blk) (hm : r'.mb = r1.mb) (hv : r'.v = r1.v) (hi : r'.ids = r1.ids) {F : Nat → Prop} (t : Tof F w2 w3) (hF : ∀ k, F k → k = r1.blk ∨ k = r1.mb) (hn : Nd w3 base (cutN N2 q s r') q r') : Half D' w base root N q r w3 (cutN N2 q s r') r' := by
  have hl : ¬ Live (cont N1) (q ++ [s]) := hR.dead.1 rfl
  have hq2 : N2 q = some r1 := by rw [hR.out q (q_not q s)]; exact h.at_
  refine ⟨hR.tm.cut hq2 hb hm hv t (fun k hk => (hF k hk).imp id .inl) hn, ?_, fun p hp => ?_, cutN_self, by rw [hb, h.blk], by rw [hm, h.mb], by rw [hv, h.v], by rw [hi, h.ids], ?_, fun q0 k hk => ?_⟩
  · rw [half_step hD hs, ← h.ct]
    funext p
    have hlp := h.live p
    by_cases a : (q ++ [s]) <+: p
    · rw [if_pos ⟨a, fun h1 => not_live_pre hl a (hlp.2 h1)⟩]
      exact cont_none.2 (cutN_cut a)
    · rw [if_neg (fun h1 => a h1.1)]
      by_cases e : p = q
      · rw [e, cont_some.2 ⟨r', cutN_self, rfl⟩, cont_some.2 ⟨r1, h.at_, rfl⟩, hi]
      · have e1 : cont (cutN N2 q s r') p = cont N2 p := by unfold cont; rw [cutN_other a e]
        rw [e1, hR.ct]
        unfold pruneC
        rw [if_neg (fun h1 => a h1.1.1)]
  · have e : p ≠ q := fun e => hp (by rw [e]; exact List.prefix_refl _)
    have a : ¬ (q ++ [s]) <+: p := fun h1 => hp ((List.prefix_append _ _).trans h1)
    rw [cutN_other a e, hR.out p a, h.out p hp]
  · refine (h.t.trans hR.t (fun i _ hi => h.fp q i (fpAt_sub hi))).trans t (fun i _ hf => ?_)
    refine h.fp q i ⟨[], r1, by simpa using h.at_, ?_⟩
    exact (hF i hf).imp id .inl
  · obtain ⟨u, y, h1, h2⟩ := hk
    by_cases a : (q ++ [s]) <+: q0 ++ u
    · rw [cutN_cut a] at h1; simp at h1
    · by_cases e : q0 ++ u = q
      · rw [e, cutN_self] at h1
        obtain rfl := Option.some.inj h1
        refine h.fp q0 k ⟨u, r1, by rw [e]; exact h.at_, ?_⟩
        unfold NRec.has at *
        rw [← hb, ← hm, ← hv]; exact h2
      · rw [cutN_other a e] at h1
        exact h.fp q0 k (hR.fp q0 k ⟨u, y, h1, h2⟩)

theorem at?_del (l : List (Int × Value)) (x b : Int) : at? (delL l x) b = if b = x then none else at? l b := by
  unfold at? delL
  rw [List.find?_filter]
  by_cases e : b = x
  · subst e
    rw [if_pos rfl]
    have : l.find? (fun a => decide ((a.1 != b) = true ∧ (a.1 == b) = true)) = none := by
      rw [List.find?_eq_none]
      intro p _
      by_cases h : p.1 = b <;> simp [h]
    rw [this]; rfl
  · rw [if_neg e]
    congr 1
    congr 1
    funext p
    by_cases h : p.1 = b
    · have : ¬ p.1 = x := fun h2 => e (by rw [← h, h2])
      simp [h, e]
    · simp [h]

theorem RIter.tof {F : Nat → Prop} {q : IntKind} {w w' : World} {r b : Nat} {l : List (Int × Value)} {left : List Int} (h : RIter q w r b l left) (t : Tof F w w') (hr : ¬ F r) (hb : ¬ F b) : RIter q w' r b l left := by
  obtain ⟨es, clk, since, seen, c0, h1, h2, h3, h4, h5⟩ := h
  exact ⟨es, clk, since, seen, c0, t.obj h1 hb, h2, h3, t.obj h4 hr, h5⟩

theorem not_hop {q : Path} {s u : Hop} (hu : u ≠ s) : ¬ (q ++ [s]) <+: q ++ [u] := fun hp => by
  obtain ⟨t, ht⟩ := hp
  have h0 := congrArg List.length ht
  simp at h0
  rw [h0, List.append_nil] at ht
  exact hu (snoc_inj ht).2.symm
/-- The hole's node is let go. -/
theorem nd_cut_none {w w' : World} {base : Nat} {N : Net} {q : Path} {r : NRec} (h : Nd w base N q r) (hw : w' = w.setCell ⟨r.blk, 1, none⟩ (.pointer none)) : Nd w' base (cutN N q none r) q r ∧ Tof (fun k => k = r.blk) w w' := by
  have t : Tof (fun k => k = r.blk) w w' := by rw [hw]; exact Tof.of_tch (S := [r.blk]) ((Tch.refl _ _).setCell (fun _ => by simp) _) (fun k hk _ => by simpa using hk)
  obtain ⟨k1, k2, k3⟩ := h.kinds h
  refine ⟨⟨?_, h.map.tof t (fun e => k1 e.symm), fun b => ?_, ownsRow_tof t h.row (fun g hg e => k2 (by rw [hg, e])), h.lo, h.len⟩, t⟩
  · rw [hw, heap_setCell_same _ _ _ _ _ _ h.cells, cutN_cut (List.prefix_refl _)]
    simp [ptrO]
  · rw [cutN_other (not_hop (by simp)) (snoc_ne _ _)]
    exact h.ch b
/-- A byte's node is let go. -/
theorem nd_cut_some {w w' : World} {base : Nat} {N : Net} {q : Path} {r : NRec} {y : Int} (h : Nd w base N q r) (t0 : Tch [r.mb] w w') (hm : RMap .u8 w' r.mb (delL r.ch y)) : Nd w' base (cutN N q (some y) { r with ch := delL r.ch y }) q { r with ch := delL r.ch y } ∧ Tof (fun k => k = r.mb) w w' := by
  have t : Tof (fun k => k = r.mb) w w' := Tof.of_tch t0 (fun k hk _ => by simpa using hk)
  obtain ⟨k1, k2, k3⟩ := h.kinds h
  have hne : ∀ u : Hop, u ≠ some y → ¬ (q ++ [some y]) <+: q ++ [u] := fun u hu hp => by
    obtain ⟨t, ht⟩ := hp
    have h0 := congrArg List.length ht
    simp at h0
    rw [h0, List.append_nil] at ht
    exact hu (snoc_inj ht).2.symm
  refine ⟨⟨?_, hm, fun b => ?_, ownsRow_tof t h.row (fun g hg e => k3 (by rw [hg, e])), h.lo, h.len⟩, t⟩
  · rw [cutN_other (hne none (by simp)) (snoc_ne _ _)]
    exact t.obj h.cells (fun e => k1 e)
  · show at? (delL r.ch y) b = _
    rw [at?_del]
    by_cases e : b = y
    · rw [if_pos e, e, cutN_cut (List.prefix_refl _)]; rfl
    · rw [if_neg e, cutN_other (hne (some b) (by simpa using e)) (snoc_ne _ _)]
      exact h.ch b

set_option maxHeartbeats 1000000 in
theorem isEmpty_any {w : World} {base root : Nat} {N : Net} (h : TM w base root N) {q : Path} {r : NRec} (hq : N q = some r) :
    Calls Tryz.prog 49 #[ptr r.blk] w fun e w' => ∃ b, e = .returned (.bool b) ∧ w' = w ∧ (b = true ↔ r.ids = [] ∧ ∀ s, N (q ++ [s]) = none) := by
  have hn := h.node q r hq
  obtain ⟨av, cv, hv⟩ := ownsRow_slice hn.row
  have hc0 : w.cell? ⟨r.blk, 0, none⟩ = some (.map (some r.mb)) := by rw [cell_of_row w r.blk 0 _ _ _ hn.cells]; rfl
  have hc1 : w.cell? ⟨r.blk, 1, none⟩ = some (ptrO (N (q ++ [none]))) := by rw [cell_of_row w r.blk 1 _ _ _ hn.cells]; rfl
  have hc2 : w.cell? ⟨r.blk, 2, none⟩ = some r.v := by rw [cell_of_row w r.blk 2 _ _ _ hn.cells]; rfl
  rw [hv] at hc2
  have hlen := fun ty => hn.map.len (P := Tryz.prog) (t := 84) (k := 5) (e := 71) Tryz.underlying84 ty
  have HCHN : Hid (r.ch.length = 0 ↔ ∀ b, N (q ++ [some b]) = none) := Lib.hid (by
    constructor
    · intro h0 b
      have := hn.ch b
      rw [List.eq_nil_of_length_eq_zero h0] at this
      cases hN : N (q ++ [some b]) with
      | none => rfl
      | some c => rw [hN] at this; simp [at?] at this
    · intro h0
      cases hc : r.ch with
      | nil => rfl
      | cons p t =>
        have := hn.ch p.1
        rw [h0, hc] at this
        simp [at?] at this)
  have HS : Hid ((∀ s, N (q ++ [s]) = none) ↔ N (q ++ [none]) = none ∧ ∀ b, N (q ++ [some b]) = none) := Lib.hid ⟨fun h => ⟨h _, fun b => h _⟩, fun ⟨h1, h2⟩ s => by cases s with | none => exact h1 | some b => exact h2 b⟩
  have hl6 : (r.ids.length : Int) ≤ 10000000 := by have := hn.len; omega
  clear hn hv h hq
  by_cases h1 : r.ch.length = 0
  · have hb1 : ((r.ch.length : Int) == 0) = true := beq_iff_eq.2 (by omega)
    have H1 := Lib.hid h1
    by_cases h2 : r.ids.length = 0
    · have hb2 : ((r.ids.length : Int) == 0) = true := beq_iff_eq.2 (by omega)
      have H2 := Lib.hid h2
      cases h3 : N (q ++ [none]) with
      | none =>
        have H3 := Lib.hid h3
        rw [h3] at hc1
        simp only [ptrO] at hc1
        clear h1 h2 h3
        go_enter Tryz.func49, Tryz.ntmps49
        go_wp2_with fail
        go_ret
        refine ⟨true, rfl, rfl, fun _ => ⟨List.eq_nil_of_length_eq_zero H2.out, HS.out.2 ⟨H3.out, HCHN.out.1 H1.out⟩⟩, fun _ => rfl⟩
      | some c =>
        have H3 := Lib.hid h3
        rw [h3] at hc1
        simp only [ptrO] at hc1
        clear h1 h2 h3
        go_enter Tryz.func49, Tryz.ntmps49
        go_wp2_with fail
        go_ret
        refine ⟨false, rfl, rfl, fun h => by simp at h, fun h => by rw [h.2 none] at H3; exact absurd H3.out (by simp)⟩
    · have hb2 : ((r.ids.length : Int) == 0) = false := beq_eq_false_iff_ne.2 (by omega)
      have hb3 : 0 < r.ids.length := by omega
      have H2 := Lib.hid h2
      clear h1 h2
      go_enter Tryz.func49, Tryz.ntmps49
      go_wp2_with fail
      go_ret
      refine ⟨false, rfl, rfl, fun h => by simp at h, fun h => absurd (by rw [h.1]; rfl) H2.out⟩
  · have hb1 : ((r.ch.length : Int) == 0) = false := beq_eq_false_iff_ne.2 (by omega)
    have hb3 : 0 < r.ch.length := by omega
    have H1 := Lib.hid h1
    clear h1
    go_enter Tryz.func49, Tryz.ntmps49
    go_wp2_with fail
    go_ret
    refine ⟨false, rfl, rfl, fun h => by simp at h, fun h => absurd (HCHN.out.2 (HS.out.1 h.2).2) H1.out⟩

end Go.Proofs.YtcolffccbmpndaaGreatDoor
