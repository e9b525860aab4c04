/- A trie in memory: what the stores of the walk leave. -/
import Derived.Test.YtcolffccbmpndaaGreatDoorTrN
namespace Go.Proofs.YtcolffccbmpndaaGreatDoor
open Go.RowKit
set_option maxRecDepth 100000

theorem ownsRow_low {w : World} {base base' : Nat} {e : TypeId} {sz : Nat} {v : Value} {n : Nat} {xs : List Value} (h : w.ownsRow base e sz v n xs) (hb : base' ≤ base) : w.ownsRow base' e sz v n xs := by
  refine ⟨h.1, ?_⟩
  rcases h.2 with h | ⟨g, cap, cur, h1, h2, h3⟩
  · exact .inl h
  · exact .inr ⟨g, cap, cur, h1, Nat.le_trans hb h2, h3⟩

theorem NewNd.has {w w1 : World} {g : Nat} {c : NRec} (h : NewNd w w1 g c) {k : Nat} (hk : c.has k) : w.heap.size ≤ k ∧ k < w1.heap.size := by
  rcases hk with rfl | rfl | hk
  · rw [h.blk]; exact ⟨h.lo.1, lt_of_obj h.cells⟩
  · exact ⟨h.lo.2, h.map.lt⟩
  · exact h.row.lt k hk

/-- A node as it was made, in a later world. -/
theorem NewNd.nd {w w1 w2 : World} {base g : Nat} {c : NRec} {N : Net} {q : Path} {F : Nat → Prop} (h : NewNd w w1 g c) (t : Tof F w1 w2) (hF : ∀ k, F k → k < w.heap.size) (hb : base ≤ w.heap.size) (hn : ∀ s, N (q ++ [s]) = none) : Nd w2 base N q c := by
  have hf : ∀ k, c.has k → ¬ F k := fun k hk hf => by have := (h.has hk).1; have := hF k hf; omega
  refine ⟨?_, ?_, fun b => ?_, ?_, ⟨?_, ?_⟩, ?_⟩
  · rw [hn none]
    have := t.obj h.cells (by rw [← h.blk]; exact hf _ (.inl rfl))
    rw [h.blk]; exact this
  · rw [h.ch]; exact h.map.tof t (hf _ (.inr (.inl rfl)))
  · rw [h.ch, hn (some b)]; rfl
  · rw [h.ids]; exact ownsRow_low (ownsRow_tof t h.row (fun g hg => hf g (.inr (.inr hg)))) hb
  · rw [h.blk]; exact Nat.le_trans hb h.lo.1
  · exact Nat.le_trans hb h.lo.2
  · rw [h.ids]; simp

/-- What linking a node leaves. -/
structure Linked (w : World) (base root : Nat) (N : Net) (q : Path) (s : Hop) (r c : NRec) (w2 : World) (N' : Net) : Prop where
  tm : TM w2 base root N'
  cont : cont N' = fun p => if p = q ++ [s] then some [] else cont N p
  child : N' (q ++ [s]) = some c
  t : Tof r.has w w2
  fp : ∀ k, fpAt N' [] k → fpAt N [] k ∨ w.heap.size ≤ k

theorem no_below {N : Net} (hu : Up (cont N)) {q : Path} {s : Hop} (h : N (q ++ [s]) = none) (u : Hop) : N (q ++ [s] ++ [u]) = none := by
  cases h1 : N (q ++ [s] ++ [u]) with
  | none => rfl
  | some z => exact absurd h (cont_ne.1 (hu _ u (cont_ne.2 (by rw [h1]; simp))))

theorem linked_of {w w1 w2 : World} {base root g : Nat} {N : Net} {q : Path} {s : Hop} {r r' c : NRec} (h : TM w base root N) (hq : N q = some r) (hs : N (q ++ [s]) = none) (hc : NewNd w w1 g c) (hb : r'.blk = r.blk) (hm : r'.mb = r.mb) (hv : r'.v = r.v) (hi : r'.ids = r.ids)
    {F : Nat → Prop} (t : Tof F w1 w2) (hF : ∀ k, F k → k = r.blk ∨ k = r.mb) (hnr : Nd w2 base (setN (setN N q r') (q ++ [s]) c) q r') : Linked w base root N q s r c w2 (setN (setN N q r') (q ++ [s]) c) := by
  have hne := snoc_ne q s
  have hnd := h.node q r hq
  have hFr : ∀ k, F k → r.has k := fun k hk => (hF k hk).imp id .inl
  have hFs : ∀ k, F k → k < w.heap.size := fun k hk => (hnd.has_lo (hFr k hk)).2
  have t0 : Tof F w w2 := (Tof.of_tch (F := F) hc.t (by simp)).trans t (fun _ _ h => h)
  have hnc : Nd w2 base (setN (setN N q r') (q ++ [s]) c) (q ++ [s]) c := hc.nd t hFs h.size (fun u => by
    rw [setN_other _ c (snoc_ne _ _), setN_other N r' (fun e => by have := congrArg List.length e; simp at this)]
    exact no_below h.up hs u)
  refine ⟨h.link hq hs hb hm hv t0 hFr (fun k hk => (hc.has hk).1) hnr hnc, ?_, setN_same _ _ _, t0.mono (fun k _ hk => hFr k hk), fun k hk => ?_⟩
  · funext p
    unfold cont
    by_cases e : p = q ++ [s]
    · rw [e, setN_same, if_pos rfl]; simp [hc.ids]
    · rw [setN_other _ c e, if_neg e]
      by_cases e2 : p = q
      · rw [e2, setN_same, hq]; simp [hi]
      · rw [setN_other N r' e2]
  · obtain ⟨p, y, h1, h2⟩ := hk
    rw [List.nil_append] at h1
    by_cases e : p = q ++ [s]
    · rw [e, setN_same] at h1
      obtain rfl := Option.some.inj h1
      exact .inr (hc.has h2).1
    · rw [setN_other _ c e] at h1
      left
      by_cases e2 : p = q
      · rw [e2, setN_same] at h1
        obtain rfl := Option.some.inj h1
        refine ⟨q, r, hq, ?_⟩
        unfold NRec.has at *
        rw [← hb, ← hm, ← hv]; exact h2
      · rw [setN_other N r' e2] at h1
        exact ⟨p, y, h1, h2⟩

/-- A hole's node is linked. -/
theorem link_none {w w1 : World} {base root g : Nat} {N : Net} {q : Path} {r c : NRec} (h : TM w base root N) (hq : N q = some r) (hs : N (q ++ [none]) = none) (hc : NewNd w w1 g c) : ∃ N', Linked w base root N q none r c (w1.setCell ⟨r.blk, 1, none⟩ (ptr g)) N' := by
  have hnd := h.node q r hq
  have hlt : r.blk < w.heap.size := (hnd.has_lo (.inl rfl)).2
  have h1 : w1.heap[r.blk]? = some (.cells #[.map (some r.mb), .pointer none, r.v] 86 (0, 0)) := by
    have := hc.t.obj hnd.cells (by simp)
    rw [hs] at this; exact this
  have t : Tof (fun k => k = r.blk) w1 (w1.setCell ⟨r.blk, 1, none⟩ (ptr g)) := Tof.of_tch (S := [r.blk]) ((Tch.refl _ _).setCell (fun _ => by simp) _) (fun k hk _ => by simpa using hk)
  refine ⟨_, linked_of (r' := r) h hq hs hc rfl rfl rfl rfl t (fun k hk => .inl hk) ?_⟩
  have t0 : Tof (fun k => k = r.blk) w (w1.setCell ⟨r.blk, 1, none⟩ (ptr g)) := (Tof.of_tch (F := fun k => k = r.blk) hc.t (by simp)).trans t (fun _ _ h => h)
  obtain ⟨k1, k2, k3⟩ := hnd.kinds hnd
  refine ⟨?_, hnd.map.tof t0 (fun e => k1 e.symm), fun b => ?_, ownsRow_tof t0 hnd.row (fun g' hg e => k2 (by rw [hg, e])), hnd.lo, hnd.len⟩
  · rw [heap_setCell_same _ _ _ _ _ _ h1, setN_same]
    simp [ptrO, hc.blk]
  · rw [setN_other _ c (fun e => by simpa using (snoc_inj e).2), setN_other N r (snoc_ne _ _)]
    exact hnd.ch b

/-- A byte's node is linked. -/
theorem link_some {w w1 : World} {base root g : Nat} {N : Net} {q : Path} {b : Int} {r c : NRec} (h : TM w base root N) (hq : N q = some r) (hs : N (q ++ [some b]) = none) (hc : NewNd w w1 g c) :
    ∃ w2, (Instr.mapUpdate 84 (.map (some r.mb)) (.int .u8 b) (ptr g)).run Tryz.prog w1 = .ok () w2 ∧ ∃ N', Linked w base root N q (some b) r c w2 N' := by
  have hnd := h.node q r hq
  obtain ⟨w2, hrun, hm, t⟩ := (hnd.map.tch hc.t (by simp)).update (P := Tryz.prog) (k := 5) (e := 71) Tryz.underlying5 Tryz.underlying84 b (ptr g)
  refine ⟨w2, hrun, ?_⟩
  have t1 : Tof (fun k => k = r.mb) w1 w2 := Tof.of_tch t (fun k hk _ => by simpa using hk)
  have t0 : Tof (fun k => k = r.mb) w w2 := (Tof.of_tch (F := fun k => k = r.mb) hc.t (by simp)).trans t1 (fun _ _ h => h)
  obtain ⟨k1, k2, k3⟩ := hnd.kinds hnd
  have hat : at? r.ch b = none := by rw [hnd.ch b, hs]; rfl
  refine ⟨_, linked_of (r' := { r with ch := putL r.ch b (ptr g) }) h hq hs hc rfl rfl rfl rfl t1 (fun k hk => .inr hk) ?_⟩
  refine ⟨?_, hm, fun x => ?_, ownsRow_tof t0 hnd.row (fun g' hg e => k3 (by rw [hg, e])), hnd.lo, hnd.len⟩
  · rw [setN_other _ c (fun e => by simpa using (snoc_inj e).2), setN_other N _ (snoc_ne _ _)]
    exact t0.obj hnd.cells (fun e => k1 e)
  · have hput : putL r.ch b (ptr g) = r.ch ++ [(b, ptr g)] := by unfold putL; rw [hat]; simp
    show at? (putL r.ch b (ptr g)) x = _
    rw [hput]
    by_cases e : x = b
    · rw [e, setN_same]
      unfold at? at hat ⊢
      rw [List.find?_append]
      cases hf : r.ch.find? (fun p => p.1 == b) with
      | some y => rw [hf] at hat; simp at hat
      | none => simp [hc.blk]
    · rw [setN_other _ c (fun e1 => e (by simpa using (snoc_inj e1).2)), setN_other N _ (snoc_ne _ _), ← hnd.ch x]
      unfold at?
      rw [List.find?_append]
      cases hf : r.ch.find? (fun p => p.1 == x) with
      | some y => simp
      | none =>
        have : (b == x) = false := by simpa using fun e1 => e e1.symm
        simp [this]

/-- append of one number onto a row. -/
theorem row_app {w : World} {base : Nat} {v : Value} {n : Nat} {xs : List Value} (new : Value) (h : w.ownsRow base 26 1 v n xs) (hb : base ≤ w.heap.size) (hn : n ≤ 100000000) (h1 : new.oneCell' = true) :
    ∃ v' w', (Builtin.append_ #[31, 31] 31 #[v, .slice (some ⟨w.heap.size, 0, none⟩) 1 1]).run Tryz.prog (w.alloc (.cells #[new] 26)) = .ok v' w' ∧
      ∃ g c, v' = .slice (some ⟨g, 0, none⟩) (n + 1) c ∧ w'.ownsRow base 26 1 (.slice (some ⟨g, 0, none⟩) (n + 1) c) (n + 1) (xs ++ [new]) ∧ Tch v.ownBlock.toList w w' ∧ (some g = v.ownBlock ∨ w.heap.size < g) := by
  obtain ⟨i0, hi, hz0, hz1, hz2⟩ := info_parts (show (Tryz.prog.info? 26).map (fun i => (i.zero, i.size, i.bytes)) = some (some (.int .u64 0), 1, 8) by kernel_rfl)
  have hsz2 : (w.alloc (.cells #[new] 26)).heap.size = w.heap.size + 1 := by simp
  obtain ⟨v', w', hrun, ho, hg, -, hloc⟩ := run_append_own_at (P := Tryz.prog) (w := w.alloc (.cells #[new] 26)) base 31 31 26 i0 (.int .u64 0) 1 8 Tryz.underlying31 hi hz0 hz1 hz2 rfl (by decide) v n xs (h.alloc _) ⟨w.heap.size, 0, none⟩ 1 1 [new] rfl (fun j x hx => by
    have e1 : (⟨w.heap.size, 0, none⟩ : Addr).add j = ⟨w.heap.size, j, none⟩ := by unfold Addr.add; split <;> simp_all
    rw [e1, cell_of_row _ _ j #[new] 26 (0, 0) (heap_alloc_new w _)]
    simpa using hx) (by simpa using h1) (by unfold maxLen; omega) (by omega) (by rw [hsz2]; omega)
  obtain ⟨g', c', rfl, -⟩ := ownsRow_value ho (by omega)
  refine ⟨_, w', hrun, g', c', rfl, ho, ⟨hg.os, hg.output, Nat.le_trans (by rw [hsz2]; omega) hg.size, fun k hk hk2 => ?_⟩, ?_⟩
  · rw [hg.block k (by rw [hsz2]; omega) (by simpa [Option.mem_toList, eq_comm] using hk2), heap_get_alloc, if_neg (by omega)]
  · rcases hloc with hl | hl
    · exact .inl hl
    · have hl : g' = (w.alloc (.cells #[new] 26)).heap.size := by simpa [Value.ownBlock] using hl
      exact .inr (by rw [hl, hsz2]; omega)

/-- What a change of a node's numbers leaves. -/
structure Turned (w : World) (base root : Nat) (N : Net) (q : Path) (r : NRec) (l : List Int) (w2 : World) (N' : Net) : Prop where
  tm : TM w2 base root N'
  cont : cont N' = fun p => if p = q then some l else cont N p
  t : Tof r.has w w2
  fp : ∀ k, fpAt N' [] k → fpAt N [] k ∨ w.heap.size ≤ k

theorem turned_of {w w1 : World} {base root : Nat} {N : Net} {q : Path} {r : NRec} {l : List Int} {v : Value} (h : TM w base root N) (hq : N q = some r) (t : Tch r.v.ownBlock.toList w w1) (hl : l.length ≤ 10000000) (ho : w1.ownsRow base 26 1 v l.length (uV l)) (hv : ∀ g, v.ownBlock = some g → r.v.ownBlock = some g ∨ w.heap.size ≤ g) :
    ∃ N', Turned w base root N q r l (w1.setCell ⟨r.blk, 2, none⟩ v) N' := by
  have hnd := h.node q r hq
  obtain ⟨k1, k2, k3⟩ := hnd.kinds hnd
  have hbl : r.blk < w.heap.size := (hnd.has_lo (.inl rfl)).2
  have h1 : w1.heap[r.blk]? = some (.cells #[.map (some r.mb), ptrO (N (q ++ [none])), r.v] 86 (0, 0)) := t.obj hnd.cells (by simpa [Option.mem_toList] using k2)
  have t1 : Tof (fun k => k = r.blk ∨ r.v.ownBlock = some k) w (w1.setCell ⟨r.blk, 2, none⟩ v) := by
    refine (Tof.of_tch (F := fun k => k = r.blk ∨ r.v.ownBlock = some k) t (fun k hk _ => .inr (by simpa [Option.mem_toList] using hk))).trans (G := fun k => k = r.blk) (Tof.of_tch (S := [r.blk]) ((Tch.refl _ _).setCell (fun _ => by simp) _) (fun k hk _ => by simpa using hk)) (fun _ _ e => .inl e)
  have hcont : cont (setN N q { r with ids := l, v := v }) = fun p => if p = q then some l else cont N p := by
    funext p
    unfold cont
    by_cases e : p = q
    · rw [e, setN_same, if_pos rfl]; rfl
    · rw [setN_other N _ e, if_neg e]
  refine ⟨_, h.set (r' := { r with ids := l, v := v }) hq rfl rfl t1 (fun k hk => .inl (hk.imp id .inr)) hv ?_, hcont, t1.mono (fun k _ hk => hk.imp id .inr), fun k hk => ?_⟩
  · have hsame : ∀ s, setN N q { r with ids := l, v := v } (q ++ [s]) = N (q ++ [s]) := fun s => setN_other N _ (snoc_ne _ _)
    refine ⟨?_, hnd.map.tof t1 (fun e => e.elim (fun e => k1 e.symm) k3), fun b => by rw [hsame]; exact hnd.ch b, ?_, hnd.lo, hl⟩
    · show (w1.setCell ⟨r.blk, 2, none⟩ v).heap[r.blk]? = _
      rw [heap_setCell_same _ _ _ _ _ _ h1, hsame]
      simp
    · refine ownsRow_tof (F := fun k => k = r.blk) (Tof.of_tch (S := [r.blk]) ((Tch.refl _ _).setCell (fun _ => by simp) _) (fun k hk _ => by simpa using hk)) ho (fun g hg e => ?_)
      rcases hv g hg with h2 | h2
      · rw [e] at h2; exact k2 h2
      · omega
  · obtain ⟨p, y, h1, h2⟩ := hk
    rw [List.nil_append] at h1
    by_cases e : p = q
    · rw [e, setN_same] at h1
      obtain rfl := Option.some.inj h1
      rcases h2 with h2 | h2 | h2
      · exact .inl ⟨q, r, hq, .inl h2⟩
      · exact .inl ⟨q, r, hq, .inr (.inl h2)⟩
      · exact (hv k h2).imp (fun h3 => ⟨q, r, hq, .inr (.inr h3)⟩) id
    · rw [setN_other N _ e] at h1
      exact .inl ⟨p, y, h1, h2⟩

end Go.Proofs.YtcolffccbmpndaaGreatDoor
