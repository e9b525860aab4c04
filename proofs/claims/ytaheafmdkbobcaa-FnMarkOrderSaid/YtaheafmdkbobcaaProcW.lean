/- process: something waits for an index. -/
import Derived.Test.YtaheafmdkbobcaaInrW
import Derived.Test.YtaheafmdkbobcaaProcA
namespace Go.Proofs.Ytaheafmdkbobcaa
open Go.RowKit

theorem Try.info51 : (Try.prog.info? 51).map (fun i => (i.zero, i.size, i.bytes)) = some (some (.pointer none), 1, 8) := by kernel_rfl

/-- The state with one more that waits. -/
def waitS (s : MSt) (b : Nat) (i : Int) : MSt := { s with ws := s.ws ++ [(b, i)] }

section
variable {w : World} {L : Lay} {x3 v : Value} {til last : Int} {hs : List Int} {pl : List (Int × Int)} {ws : List (Nat × Int)} {f : Int → Bool} {es : List (Int × Value)}

theorem blk_none (h : Inr w L x3 v til last hs pl ws f es) {i : Int} (hf : f i = false) (ha : at? es i = none) : blk ws i = [] := by
  have : i ∉ es.map Prod.fst := by
    intro hm
    obtain ⟨p, hp, e⟩ := List.mem_map.1 hm
    exact at?_none.1 ha p hp e
  rw [h.wt.key i] at this
  simp only [hf, true_and, not_exists] at this
  unfold blk
  rw [List.map_eq_nil_iff, List.filter_eq_nil_iff]
  intro p hp
  simp only [beq_iff_eq]
  intro e
  exact this p.1 (by rw [← e]; exact hp)

/-- An index for which nothing waits yet. -/
theorem wait_new (h : Inr w L x3 v til last hs pl ws f es) {b : Nat} {i : Int} (hf : f i = false) (ha : at? es i = none) (hb : FlagAt w b false) {w1 : World} (hm : RMap .u64 w1 L.qb (putL es i (.slice (some ⟨w.heap.size, 0, none⟩) 1 1))) (t : Tch [L.qb] (w.alloc (.cells #[ptr b] 51)) w1) :
    Inr w1 L x3 v til last hs pl (ws ++ [(b, i)]) f (putL es i (.slice (some ⟨w.heap.size, 0, none⟩) 1 1)) := by
  have t0 : Tch [] w (w.alloc (.cells #[ptr b] 51)) := (Tch.refl _ _).alloc _
  have hA := h.nil t0
  have hq : L.qb ≠ w.heap.size := by have := h.wt.map.lt; omega
  refine hA.waitAny hf (t0.obj hb (by simp)) [] t (by simp) hm ?_ (by simp) ?_
  · rw [blk_none h hf ha]
    refine ⟨rfl, .inr ⟨w.heap.size, 1, #[ptr b], rfl, Nat.zero_le _, ?_, Nat.le_refl _, by unfold maxLen; omega, rfl, rfl⟩⟩
    exact t.obj (heap_alloc_new w _) (by simpa using Ne.symm hq)
  · rw [putL_none ha, List.map_append]
    refine List.nodup_append.2 ⟨h.wt.apart, by simp, ?_⟩
    intro a ha' c hc
    have hc := List.mem_singleton.1 hc
    obtain ⟨p, hp, rfl⟩ := List.mem_map.1 ha'
    intro e
    rw [hc] at e
    simp only [Value.ownBlock] at e
    obtain ⟨cur, hcu⟩ := ownsRow_block (h.wt.row p hp) e
    have := lt_of_obj hcu
    omega

/-- An index for which something waits already: the slice has been appended to. -/
theorem wait_more (h : Inr w L x3 v til last hs pl ws f es) {b : Nat} {i : Int} {g cap : Nat} (hf : f i = false) (ha : at? es i = some (.slice (some ⟨g, 0, none⟩) (blk ws i).length cap)) (hb : FlagAt w b false) {w1 w2 : World} {vn : Value}
    (hg : w.grownBy w1 (some g)) (hown : w1.ownsRow 0 51 1 vn ((blk ws i).length + 1) ((blk ws i).map ptr ++ [ptr b])) (hloc : vn.ownBlock = some g ∨ ∃ k, vn.ownBlock = some k ∧ w.heap.size ≤ k)
    (hm : RMap .u64 w2 L.qb (putL es i vn)) (t : Tch [L.qb] w1 w2) :
    Inr w2 L x3 v til last hs pl (ws ++ [(b, i)]) f (putL es i vn) := by
  have hmem := at?_some_mem ha
  have hgo : ∀ p ∈ es, p.1 ≠ i → p.2.ownBlock ≠ some g := by
    intro p hp hne e
    have := nodup_at h.wt.apart hp hmem (by rw [e]; rfl)
    rw [this] at hne; exact hne rfl
  have T : Tch (L.qb :: [g]) w w2 := (((Tch.refl (L.qb :: [g]) w).grown hg (by intro k hk _; simp at hk; simp [hk]))).head t (by simp)
  obtain ⟨cg, hcg⟩ := ownsRow_block (h.wt.row _ hmem) (g := g) rfl
  have hvq : ∀ k, vn.ownBlock = some k → k ∉ [L.qb] := by
    intro k hk hm'
    have := List.mem_singleton.1 hm'
    subst this
    rcases hloc with hl | ⟨k', hl, hk'⟩
    · rw [hl] at hk; simp at hk
      exact h.wt.map.ne_cells hcg hk.symm
    · rw [hl] at hk; simp at hk
      have := h.wt.map.lt; omega
  refine h.waitAny hf hb [g] T (by intro k hk; rw [List.mem_singleton.1 hk]; exact ⟨cg, hcg⟩) hm ?_ ?_ ?_
  · have := t.own hown hvq
    simpa using this
  · intro p hp hne g' hg' hm'
    exact hgo p hp hne (by rw [hg', List.mem_singleton.1 hm'])
  · rw [putL_some ha, List.map_map]
    have hn := h.wt.apart
    have hkn := h.wt.map.nodup
    have hvn : ∀ p ∈ es, p.1 ≠ i → p.2.ownBlock ≠ vn.ownBlock := by
      intro p hp hne e
      rcases hloc with hl | ⟨k', hl, hk'⟩
      · rw [hl] at e; exact hgo p hp hne e
      · rw [hl] at e
        obtain ⟨cu, hcu⟩ := ownsRow_block (h.wt.row p hp) e
        have := lt_of_obj hcu; omega
    clear hm T hgo hmem ha t hown hg hcg hvq hloc h hf hb
    induction es with
    | nil => simp
    | cons p l ih =>
      simp only [List.map_cons, List.nodup_cons] at hn hkn ⊢
      have ih := ih hn.2 hkn.2 (fun q hq => hvn q (List.mem_cons_of_mem _ hq))
      refine ⟨?_, ih⟩
      intro hmem
      obtain ⟨q, hq, e⟩ := List.mem_map.1 hmem
      simp only [Function.comp] at e
      have hqp : q.1 ≠ p.1 := fun e' => hkn.1 (List.mem_map.2 ⟨q, hq, e'⟩)
      by_cases hq1 : q.1 = i
      · rw [if_pos hq1] at e
        by_cases hp1 : p.1 = i
        · exact hqp (hq1.trans hp1.symm)
        · rw [if_neg hp1] at e
          exact hvn p (by simp) hp1 e.symm
      · rw [if_neg hq1] at e
        by_cases hp1 : p.1 = i
        · rw [if_pos hp1] at e
          exact hvn q (List.mem_cons_of_mem _ hq) hq1 e
        · rw [if_neg hp1] at e
          exact hn.1 (List.mem_map.2 ⟨q, hq, e⟩)
end

/-- The rows behind a store. -/
theorem rows_putL {es : List (Int × Value)} {i : Int} {vn : Value} {k : Nat} (hk : k ∈ rows (putL es i vn)) : k ∈ rows es ∨ vn.ownBlock = some k := by
  obtain ⟨p, hp, e⟩ := List.mem_filterMap.1 hk
  unfold putL at hp
  split at hp
  · obtain ⟨q, hq, e'⟩ := List.mem_map.1 hp
    split at e'
    · rw [← e'] at e; exact .inr e
    · rw [← e'] at e; exact .inl (List.mem_filterMap.2 ⟨q, hq, e⟩)
  · rcases List.mem_append.1 hp with hp | hp
    · exact .inl (List.mem_filterMap.2 ⟨p, hp, e⟩)
    · rw [List.mem_singleton.1 hp] at e; exact .inr e

/-- The end of process where something waits. -/
theorem wait_fin {w wr : World} {B : Bk} {fp : List Nat} {L : Lay} {x3 v : Value} {hs : List Int} {es : List (Int × Value)} {s : MSt} (hi : Inr wr L x3 v s.til s.last hs s.pl s.ws (told s) es) (hp : hs.Perm (s.pl.map Prod.fst)) (hh : IsHp hs)
    (hL : L.wb = B.wb ∧ L.pb = B.pb ∧ L.qb = B.qb) (hB : L.wb ∈ fp ∧ L.pb ∈ fp ∧ L.qb ∈ fp) (hv : ∀ k, v.ownBlock = some k → k ∈ fp) (hws : ∀ p ∈ s.ws, p.1 ∈ fp) (hes : ∀ k ∈ rows es, k ∈ fp ∨ w.heap.size ≤ k) (t : Tch fp w wr) :
    ∃ a n c, wr.cell? ⟨L.ib, 0, none⟩ = some (.slice a n c) ∧ wr.cell? ⟨L.wbx, 0, none⟩ = some (ptr L.wb) ∧ (∃ old, wr.cell? ⟨L.wb, 3, none⟩ = some old) ∧ wr.frozen? ⟨L.wb, 3, none⟩ = false ∧ Leaves1 w B fp s (wr.setCell ⟨L.wb, 3, none⟩ (.slice a n c)) := by
  obtain ⟨f1, f2, f3, f4, f5, f6⟩ := hi.facts
  obtain ⟨a, c, hv'⟩ := ownsRow_slice hi.hp.own
  obtain ⟨m1, m2⟩ := hi.toMk hp hh
  refine ⟨a, hs.length, c, by rw [f4, hv'], f2, ⟨_, hi.core.cells.2.2.1⟩, hi.core.cells.2.2.2.2.2 3, ?_⟩
  rw [← hv']
  obtain ⟨e1, e2, e3⟩ := hL
  have hBk : (⟨L.wb, L.pb, L.qb⟩ : Bk) = B := by cases B; simp_all
  rw [hBk] at m1
  refine ⟨foot B v es s, ⟨v, hs, es, m1, fun k hk => hk⟩, ?_, t.then m2 ?_⟩
  · intro k hk
    simp only [foot, List.mem_cons, List.mem_append] at hk
    rcases hk with rfl | rfl | rfl | (hk | hk) | hk
    · exact .inl (e1 ▸ hB.1)
    · exact .inl (e2 ▸ hB.2.1)
    · exact .inl (e3 ▸ hB.2.2)
    · cases hv0 : v.ownBlock with
      | none => rw [hv0] at hk; simp at hk
      | some g => rw [hv0] at hk; simp at hk; subst hk; exact .inl (hv _ hv0)
    · obtain ⟨p, hp, rfl⟩ := List.mem_map.1 hk
      exact .inl (hws p hp)
    · exact hes k hk
  · intro i _ hm
    have := List.mem_singleton.1 hm
    rw [this]; exact hB.1

/-- A statement that ends by its own end alone. -/
def OnlyN (Q : Exit → Act → World → Prop) : Exit → Act → World → Prop
  | .normal, a, w => Q .normal a w
  | _, _, _ => False
theorem wp_onlyN {P : Program} {c : Code} {Q : Exit → Act → World → Prop} {a : Act} {w : World} (h : c.wp P (OnlyN Q) a w) : c.wp P Q a w :=
  Code.wp_mono (fun e a w q => by cases e <;> first | exact q | exact q.elim) h

set_option maxHeartbeats 4000000 in
set_option maxRecDepth 100000 in
theorem process_wait (x : Int) (b : Nat) (B : Bk) (fp : List Nat) (s : MSt) (w : World) (hwl : s.ws.length ≤ 100000) (hx : s.til < x) (hb : FlagAt w b false) (hbf : b ∈ fp) (h : MkAt w B fp s) :
    Calls Try.prog 33 #[ptr B.wb, .agg #[.int .u64 x, ptr b, .slice none 0 0, .bool false]] w fun e w' => e = .returned (.tuple #[]) ∧ Leaves1 w B fp (waitS s b x) w' := by
  obtain ⟨v, hs, es, hm, hf⟩ := h
  obtain ⟨j0, hj, hz0, hz1, hz2⟩ := info_parts Try.info51
  have hmf : ∀ (fn : Fn) (first cap : Array Value) (w : World), (Instr.makeFunc fn first cap).run Try.prog w = .ok (.func fn first cap) w := fun _ _ _ _ => rfl
  have c0 : w.cell? ⟨B.wb, 3, none⟩ = some v := by rw [cell_of_row w B.wb _ _ 63 (0, 0) hm.str]; rfl
  obtain ⟨ad, cp, hv⟩ := ownsRow_slice hm.own
  have hlt := lt_of_obj hm.str
  rw [hv] at c0
  have HV := Lib.hid hv
  have HB := Lib.hid hb
  clear hv hb
  go_enter_defers Try.func33, Try.ntmps33
  go_upto_region 3 with fail
  go_cut [5, 6] from 13 (fun s5 s6 wx => ∃ p q, s5 = ptr p ∧ s6 = ptr q ∧ Boxes w B #[.int .u64 x, ptr b, .slice none 0 0, .bool false] (.slice ad hs.length cp) p q wx)
  case first =>
    obtain ⟨W3, hW3, hsz, t3, d0, d1, d2⟩ := three_boxes w B #[.int .u64 x, ptr b, .slice none 0 0, .bool false] (.slice ad hs.length cp)
    rw [hW3]
    have m3 := t3.obj hm.str (by simp)
    have e1 : W3.cell? ⟨B.wb, 4, none⟩ = some (.map (some B.pb)) := by rw [cell_of_row W3 B.wb _ _ 63 (0, 0) m3]; rfl
    have e2 : W3.cell? ⟨B.wb, 5, none⟩ = some (.map (some B.qb)) := by rw [cell_of_row W3 B.wb _ _ 63 (0, 0) m3]; rfl
    have e0 := cell_of_one d0
    have hlt3 : B.wb < W3.heap.size := by omega
    have hlt4 : w.heap.size < W3.heap.size := by omega
    have HK : Hid (∀ p q wx, Tch [] W3 wx → wx.heap[p]? = some (.cells #[.map (some B.pb)] 59 (0, 0)) → wx.heap[q]? = some (.cells #[.map (some B.qb)] 60 (0, 0)) → W3.heap.size ≤ p → W3.heap.size ≤ q → Boxes w B #[.int .u64 x, ptr b, .slice none 0 0, .bool false] (.slice ad hs.length cp) p q wx) :=
      fun p q wx t b3 b4 hp hq => Boxes.of hsz t3 d0 d1 d2 t b3 b4 hp hq
    clear hW3 hsz t3 d0 d1 d2 m3 c0 hm hf hmf HV HB
    go_region
    all_goals (go_wp2_with fail; go_meet)
    all_goals first
      | (obtain ⟨a1, a2, a3⟩ := two_a (W3 := W3) (o := .cells #[.map (some B.pb)] 59) (o' := .cells #[.map (some B.qb)] 60) (wx := ((W3.alloc (.cells #[.map (some B.pb)] 59)).alloc (.cells #[.map (some B.qb)] 60)).drew) ⟨rfl, rfl, rfl⟩; exact ⟨W3.heap.size, W3.heap.size + 1, rfl, rfl, HK.out _ _ _ a1 a2 a3 (Nat.le_refl _) (Nat.le_succ _)⟩)
      | (obtain ⟨a1, a2, a3⟩ := two_a (W3 := W3) (o := .cells #[.map (some B.qb)] 60) (o' := .cells #[.map (some B.pb)] 59) (wx := ((W3.alloc (.cells #[.map (some B.qb)] 60)).alloc (.cells #[.map (some B.pb)] 59)).drew) ⟨rfl, rfl, rfl⟩; exact ⟨W3.heap.size + 1, W3.heap.size, rfl, rfl, HK.out _ _ _ a1 a3 a2 (Nat.le_succ _) (Nat.le_refl _)⟩)
  case rest =>
    obtain ⟨p, q, rfl, rfl, hbx⟩ := hcut
    obtain ⟨i1, i2, i3, i4⟩ := Mk.inFp hf
    have k0 : wc.cell? ⟨w.heap.size + 1, 0, none⟩ = some (.int .u64 x) := by rw [cell_of_row wc _ _ _ 66 (0, 0) hbx.b1]; rfl
    have k1 : wc.cell? ⟨w.heap.size + 1, 1, none⟩ = some (ptr b) := by rw [cell_of_row wc _ _ _ 66 (0, 0) hbx.b1]; rfl
    have hinr := hm.inr hbx.t (w.heap.size + 1 + 1) p w.heap.size q (by rw [HV.out]; exact hbx.b2) hbx.b3 hbx.b0 hbx.b4
    obtain ⟨f1, f2, f3, f4, f5, -⟩ := hinr.facts
    have hbc := hbx.t.obj HB.out (by simp)
    have hfx : told s x = false := by simp [told]; omega
    have hlk := hinr.wt.map.lookup_ok (P := Try.prog) (t := 60) Try.underlying28 Try.underlying60 (zero48 wc) x
    have hd0 : decide (x ≤ s.til) = false := by simp; omega
    have HP := Lib.hid hm.perm
    have HH := Lib.hid hm.heap
    cases hat : at? es x with
    | none =>
      rw [hat] at hlk
      simp only [Option.getD_none, Option.isSome_none] at hlk
      have HAT := Lib.hid hat
      have HFX := Lib.hid hfx
      clear hat hfx hm hf hmf
      have hma := hinr.wt.map.tch ((Tch.refl [] wc).alloc (.cells #[ptr b] 51)) (by simp)
      have K : ∀ w5, RMap .u64 w5 B.qb (putL es x (.slice (some ⟨wc.heap.size, 0, none⟩) 1 1)) → Tch [B.qb] (wc.alloc (.cells #[ptr b] 51)) w5 →
          ∃ a n c, w5.cell? ⟨w.heap.size + 1 + 1, 0, none⟩ = some (.slice a n c) ∧ w5.cell? ⟨w.heap.size, 0, none⟩ = some (ptr B.wb) ∧ (∃ old, w5.cell? ⟨B.wb, 3, none⟩ = some old) ∧ w5.frozen? ⟨B.wb, 3, none⟩ = false ∧ Leaves1 w B fp (waitS s b x) (w5.setCell ⟨B.wb, 3, none⟩ (.slice a n c)) := by
        intro w5 hm5 ht5
        have hi5 := wait_new hinr HFX.out HAT.out hbc hm5 ht5
        refine wait_fin (s := waitS s b x) (fp := fp) (B := B) hi5 HP.out HH.out ⟨rfl, rfl, rfl⟩ ⟨i1.1, i1.2.1, i1.2.2⟩ i2 ?_ ?_ ((((hbx.t.mono (by simp)).alloc _).then ht5 (by intro k _ hk; rw [List.mem_singleton.1 hk]; exact i1.2.2)))
        · intro p' hp'
          rcases List.mem_append.1 hp' with h' | h'
          · exact i3 p' h'
          · rw [List.mem_singleton.1 h']; exact hbf
        · intro k hk
          rcases rows_putL hk with h' | h'
          · exact .inl (i4 k h')
          · simp [Value.ownBlock] at h'; right; have := hbx.t.size; omega
      have HK := Lib.hid K
      have HMA := Lib.hid hma
      clear K hma hinr hbc hbx i4 f4
      go_wp2_with (at_mapUpdate; refine wpList_mapUpdate_run rfl _ _ _ 60 rfl _ _ _ rfl rfl rfl _ (HMA.out.update Try.underlying28 Try.underlying60 x (.slice (some ⟨wc.heap.size, 0, none⟩) 1 1)) ?_; rintro w5 ⟨hm5, ht5⟩; obtain ⟨a', n', c', m1, m2, ⟨old, m3⟩, m4, m5⟩ := HK.out w5 hm5 ht5; have HLV := Lib.hid m5; clear m5 hm5 ht5 k0 k1 f1 f2 f3 f5 hlk)
      refine leaves_cons (f := 35) (args := #[ptr (w.heap.size + 1 + 1), ptr w.heap.size]) (by simp) (by simp [go_sem]) ?_
      refine (put_back _ _ B.wb n' c' a' old .returning _ m1 m2 m3 m4).mono ?_
      rintro e u' w'' ⟨rfl, rfl, rfl⟩
      exact ⟨_, results_none rfl _ _ _, rfl, HLV.out⟩
    | some vv =>
      rw [hat] at hlk
      simp only [Option.getD_some, Option.isSome_some] at hlk
      obtain ⟨g, cap, rfl, hrow⟩ := hinr.wt.slice (at?_some_mem hat)
      have hblen : (blk s.ws x).length ≤ 100000 := Nat.le_trans (blk_len s.ws x) hwl
      have K : ∀ v' w5, w5.ownsRow 0 51 1 v' ((blk s.ws x).length + 1) ((blk s.ws x).map ptr ++ [ptr b]) → (wc.drew.alloc (.cells #[ptr b] 51)).grownBy w5 (Value.slice (some ⟨g, 0, none⟩) (blk s.ws x).length cap).ownBlock → (v'.ownBlock = (Value.slice (some ⟨g, 0, none⟩) (blk s.ws x).length cap).ownBlock ∨ v'.ownBlock = some (wc.drew.alloc (.cells #[ptr b] 51)).heap.size) →
          (∃ g' c', v' = .slice (some ⟨g', 0, none⟩) ((blk s.ws x).length + 1) c') ∧ (w5.cell? ⟨w.heap.size + 1, 0, none⟩ = some (.int .u64 x) ∧ w5.cell? ⟨q, 0, none⟩ = some (.map (some B.qb))) ∧ ∃ w6, (Instr.mapUpdate 60 (.map (some B.qb)) (.int .u64 x) v').run Try.prog w5 = .ok () w6 ∧
          ∃ a n c, w6.cell? ⟨w.heap.size + 1 + 1, 0, none⟩ = some (.slice a n c) ∧ w6.cell? ⟨w.heap.size, 0, none⟩ = some (ptr B.wb) ∧ (∃ old, w6.cell? ⟨B.wb, 3, none⟩ = some old) ∧ w6.frozen? ⟨B.wb, 3, none⟩ = false ∧ Leaves1 w B fp (waitS s b x) (w6.setCell ⟨B.wb, 3, none⟩ (.slice a n c)) := by
        intro v' w5 ho hg hloc
        have t0 : Tch [] wc (wc.drew.alloc (.cells #[ptr b] 51)) := ((Tch.refl _ _).drew).alloc _
        have hiA := hinr.nil t0
        have hgq : B.qb ≠ g := by
          obtain ⟨cg, hcg⟩ := ownsRow_block hrow (g := g) rfl
          exact hinr.wt.map.ne_cells hcg
        have t1 : Tch [g] (wc.drew.alloc (.cells #[ptr b] 51)) w5 := (Tch.refl _ _).grown hg (by intro k hk _; simp [Value.ownBlock] at hk; simp [hk])
        obtain ⟨g', c', hv', -, -⟩ := ownsRow_value ho (by omega)
        obtain ⟨cg, hcg⟩ := ownsRow_block hrow (g := g) rfl
        have hb1 := t1.obj (t0.obj hbx.b1 (by simp)) (by simpa using cells_ne hbx.b1 hcg (by decide))
        have hb4 := t1.obj (t0.obj hbx.b4 (by simp)) (by simpa using cells_ne hbx.b4 hcg (by decide))
        refine ⟨⟨g', c', hv'⟩, ⟨by rw [cell_of_row w5 _ _ _ 66 (0, 0) hb1]; rfl, cell_of_one hb4⟩, ?_⟩
        obtain ⟨w6, hrun, hm6, ht6⟩ := (hiA.wt.map.tch t1 (by simpa using hgq)).update (P := Try.prog) (t := 60) Try.underlying28 Try.underlying60 x v'
        refine ⟨w6, hrun, ?_⟩
        have hi6 := wait_more hiA hfx hat (t0.obj hbc (by simp)) hg ho (by
          rcases hloc with h' | h'
          · exact .inl h'
          · exact .inr ⟨_, h', Nat.le_refl _⟩) hm6 ht6
        have hgfp : g ∈ fp := i4 g (List.mem_filterMap.2 ⟨_, at?_some_mem hat, rfl⟩)
        refine wait_fin (s := waitS s b x) (fp := fp) (B := B) hi6 HP.out HH.out ⟨rfl, rfl, rfl⟩ ⟨i1.1, i1.2.1, i1.2.2⟩ i2 ?_ ?_ ((((hbx.t.trans t0).mono (by simp)).then t1 (by intro k _ hk; rw [List.mem_singleton.1 hk]; exact hgfp)).then ht6 (by intro k _ hk; rw [List.mem_singleton.1 hk]; exact i1.2.2))
        · intro p' hp'
          rcases List.mem_append.1 hp' with h' | h'
          · exact i3 p' h'
          · rw [List.mem_singleton.1 h']; exact hbf
        · intro k hk
          rcases rows_putL hk with h' | h'
          · exact .inl (i4 k h')
          · rcases hloc with h2 | h2
            · rw [h2] at h'; simp [Value.ownBlock] at h'; exact .inl (h' ▸ hgfp)
            · rw [h2] at h'; simp at h'; right; have := hbx.t.size; omega
      have HK := Lib.hid K
      have HRW := Lib.hid hrow
      have l1 := lt_of_obj hbx.b1
      have l4 := lt_of_obj hbx.b4
      clear K hrow hinr hbc hbx i4 f4 hat hfx hm hf hmf
      go_wp2_with fail
      refine wp_onlyN ?_
      go_region_law (refine step_append_own rfl (.tmp 60) (.tmp 63) 48 rfl 0 51 j0 (.pointer none) 1 8 Try.underlying48 hj hz0 hz1 hz2 rfl (by decide) (.slice (some ⟨g, 0, none⟩) (blk s.ws x).length cap) _ _ (by simp [Act.eval]) (HRW.out.alloc _) ⟨wc.heap.size, 0, none⟩ 1 1 [ptr b] (by simp [Act.eval]) rfl (cell_one_new _ _ _) (by simp [Value.oneCell']) (by unfold maxLen; omega) (by omega) (Nat.zero_le _) ?_; intro v' w5 ho hg hloc; obtain ⟨⟨g', c', rfl⟩, ⟨n1, n2⟩, w6, hrun6, hk⟩ := HK.out _ _ ho hg hloc; have HK2 := Lib.hid hk; clear hk ho hg hloc)
      all_goals
        obtain ⟨a', n', c2, m1, m2, ⟨old, m3⟩, m4, m5⟩ := HK2.out
        have HLV := Lib.hid m5
        clear m5
        go_wp2_with fail
        refine leaves_cons (f := 35) (args := #[ptr (w.heap.size + 1 + 1), ptr w.heap.size]) (by simp) (by simp [go_sem]) ?_
        refine (put_back _ _ B.wb n' c2 a' old .returning _ m1 m2 m3 m4).mono ?_
        rintro e u' w'' ⟨rfl, rfl, rfl⟩
        exact ⟨_, results_none rfl _ _ _, rfl, HLV.out⟩

end Go.Proofs.Ytaheafmdkbobcaa
