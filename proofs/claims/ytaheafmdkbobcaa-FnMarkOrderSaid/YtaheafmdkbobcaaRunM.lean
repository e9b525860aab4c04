/- impl.RunMark. -/
import Derived.Test.YtaheafmdkbobcaaRunW
import Derived.Deep.CutBlock
namespace Go.Proofs.Ytaheafmdkbobcaa
open Go.RowKit

theorem Try.info35 : (Try.prog.info? 35).map (fun i => (i.zero, i.size, i.bytes)) = some (some (.agg #[.int .u64 0, .int .u64 0, .int .i64 0, .int .i64 0, .slice none 0 0]), 5, 56) := by kernel_rfl
theorem Try.info4 : (Try.prog.info? 4).map (fun i => (i.zero, i.size, i.bytes)) = some (some (.bool false), 1, 1) := by kernel_rfl

/-- Steps in memory, at a place a. -/
structure StepAt (w : World) (a : Addr) (p : Stp) : Prop where
  lt : a.block < w.heap.size
  kind : w.cell? a = some (.int .i64 p.kind)
  idx : w.cell? (a.add 1) = some (.int .u64 p.idx)
  many : ∃ am cm, w.cell? (a.add 2) = some (.slice am p.many.length cm) ∧ (am = none → cm = 0 ∧ p.many.length = 0) ∧ ∀ ad, am = some ad → ∀ j, j < p.many.length → ad.block < w.heap.size ∧ w.cell? (ad.add j) = some (.int .u64 (p.many.getD j 0))

def StepsAt (w : World) (sa : Option Addr) (L : List Stp) : Prop := ∀ i, i < L.length → ∃ a, sa = some a ∧ StepAt w (a.add (i * 3)) (L.getD i default)

theorem StepAt.tch {w w' : World} {a : Addr} {p : Stp} (h : StepAt w a p) (t : Tch [] w w') : StepAt w' a p := by
  have hb : ∀ j, (a.add j).block = a.block := fun j => by unfold Addr.add; split <;> rfl
  obtain ⟨am, cm, h1, h2, h3⟩ := h.many
  refine ⟨Nat.lt_of_lt_of_le h.lt t.size, by rw [t.cell h.lt (by simp)]; exact h.kind, by rw [t.cell (by rw [hb]; exact h.lt) (by simp)]; exact h.idx, am, cm, by rw [t.cell (by rw [hb]; exact h.lt) (by simp)]; exact h1, h2, fun ad hd j hj => ⟨Nat.lt_of_lt_of_le (h3 ad hd j hj).1 t.size, ?_⟩⟩
  have hb' : (ad.add j).block = ad.block := by unfold Addr.add; split <;> rfl
  rw [t.cell (by rw [hb']; exact (h3 ad hd j hj).1) (by simp)]
  exact (h3 ad hd j hj).2

/-- What a run has left: all that is told, in new memory. -/
structure OutAt (w0 w : World) (ov : Value) (outs : List (TR × Value)) : Prop where
  t : Tch [] w0 w
  row : w.ownsRow 0 35 5 ov outs.length (outs.flatMap outCells)
  rn : ∀ k, ov.ownBlock = some k → w0.heap.size ≤ k
  dn : ∀ p ∈ outs, w.ownsRow 0 4 1 p.2 p.1.done.length (p.1.done.map Value.bool) ∧ ∀ k, p.2.ownBlock = some k → w0.heap.size ≤ k

theorem row_new {w : World} (t : TypeId) (size : Nat) : (w.alloc (.cells #[] t)).ownsRow 0 t size (.slice (some ⟨w.heap.size, 0, none⟩) 0 0) 0 [] := by
  have := World.ownsRow_lit (base := 0) (e := t) (size := size) w #[] 0 (Nat.zero_le _) (Nat.zero_le _) (by simp)
  simpa using this

theorem wpList_append_run {P : Program} {w : World} {ops : Array Oper} {rest : List Oper} {o : Oper} {a : Act} {Q : Exit → Act → World → Prop} (hg : o.guard = none) (s x : Operand) (t : TypeId)
    (hop : o.op = Op.call { callee := .builtin .append, args := #[s, x], argTypes := #[t, t] }) (vs vx : Value) (hs : a.eval s = vs) (hx : a.eval x = vx) (R : Value → World → Prop)
    (hrun : ∃ v w', (Builtin.append_ #[t, t] o.type #[vs, vx]).run P w = .ok v w' ∧ R v w') (hK : ∀ v w', R v w' → wpList P ops Q rest (a.put o.dst v) w') : wpList P ops Q (o :: rest) a w := by
  obtain ⟨v, w', hr, hR⟩ := hrun
  refine wpList_plain hg fun K' hK' => ?_
  unfold Oper.wp execOp
  simp only [hop, resolve, invoke, builtin, Sem.run_bind, Sem.run_pure, Result.andThen_ok, List.map_toArray, List.map_cons, List.map_nil, hs, hx, hr]
  exact hK' _ _ (hK v w' hR)

theorem add_block (a : Addr) (j : Nat) : (a.add j).block = a.block := by unfold Addr.add; split <;> rfl

theorem copy_run (W : World) (hsz : Nat) (hszW : W.heap.size = hsz) (ty : TypeId) (am : Option Addr) (cm : Nat) (zs : List Int) (hl : zs.length ≤ 5000) (hn : am = none → cm = 0 ∧ zs.length = 0)
    (hr : ∀ ad, am = some ad → ∀ j, j < zs.length → ad.block < W.heap.size ∧ W.cell? (ad.add j) = some (.int .u64 (zs.getD j 0))) :
    ∃ v w', (Builtin.append_ #[29, 29] ty #[.slice (some ⟨hsz, 0, none⟩) 0 0, .slice am zs.length cm]).run Try.prog (W.alloc (.cells #[] 28)) = .ok v w' ∧
      ∃ g c, v = .slice (some ⟨g, 0, none⟩) zs.length c ∧ w'.ownsRow 0 28 1 (.slice (some ⟨g, 0, none⟩) zs.length c) zs.length (U zs) ∧ W.heap.size ≤ g ∧ Tch [] W w' := by
  subst hszW
  obtain ⟨i0, hi, hz0, hz1, hz2⟩ := info_parts Try.info28
  have hown := row_new (w := W) 28 1
  have t0 : Tch [] W (W.alloc (.cells #[] 28)) := (Tch.refl _ _).alloc _
  cases am with
  | none =>
    obtain ⟨rfl, h0⟩ := hn rfl
    have : zs = [] := List.eq_nil_of_length_eq_zero h0
    subst this
    exact ⟨_, _, run_append_owned_none _ 0 29 ty 28 i0 1 Try.underlying29 hi _ 0 [] hown, W.heap.size, 0, rfl, hown, Nat.le_refl _, t0⟩
  | some ad =>
    have h12 := hr ad rfl
    obtain ⟨v', w', hrun, ho, hg, -, hloc⟩ := run_append_own_at (P := Try.prog) (W.alloc (.cells #[] 28)) 0 29 ty 28 i0 (.int .u64 0) 1 8 Try.underlying29 hi hz0 hz1 hz2 rfl (by decide) _ 0 [] hown ad zs.length cm (U zs) (by simp [U]) (fun j u hu => by
        have hj : j < zs.length := by
          have := (List.getElem?_eq_some_iff.1 hu).1
          simpa [U] using this
        rw [t0.cell (by rw [add_block]; exact (h12 j hj).1) (by simp), (h12 j hj).2]
        simp only [U, List.getElem?_map] at hu
        rw [← hu]
        simp [List.getD, List.getElem?_eq_getElem hj]) (by intro u hu; simp only [U, List.mem_map] at hu; obtain ⟨x, -, rfl⟩ := hu; rfl) (by unfold maxLen; omega) (by omega) (Nat.zero_le _)
    rw [Nat.zero_add, List.nil_append] at ho
    have hb : ∃ g, v'.ownBlock = some g ∧ W.heap.size ≤ g := by
      rcases hloc with e | e
      · exact ⟨_, e, Nat.le_refl _⟩
      · exact ⟨_, e, by simp⟩
    obtain ⟨g, hg1, hg2⟩ := hb
    have hv : ∃ c, v' = .slice (some ⟨g, 0, none⟩) zs.length c := by
      rcases ho.2 with ⟨e, -⟩ | ⟨g', cap, cur, e, -⟩
      · rw [e] at hg1; simp [Value.ownBlock] at hg1
      · rw [e] at hg1; simp [Value.ownBlock] at hg1; subst hg1; exact ⟨cap, e⟩
    obtain ⟨c, rfl⟩ := hv
    exact ⟨_, w', hrun, g, c, rfl, ho, hg2, t0.grown hg (fun k hk hlt => by simp [Value.ownBlock] at hk; omega)⟩

theorem stpM_0 (s : MSt) (ix : Int) (zs : List Int) : stpM s ⟨0, ix, zs⟩ = next1 { s with last := ix } ix false := by simp [stpM]
theorem stpM_1 (s : MSt) (ix : Int) (zs : List Int) : stpM s ⟨1, ix, zs⟩ = nextMany { s with last := zs.getD (zs.length - 1) 0 } zs false := by simp [stpM]
theorem stpM_2 (s : MSt) (ix : Int) (zs : List Int) : stpM s ⟨2, ix, zs⟩ = next1 s ix true := by simp [stpM]
theorem stpM_3 (s : MSt) (ix : Int) (zs : List Int) : stpM s ⟨3, ix, zs⟩ = nextMany s zs true := by simp [stpM]
theorem stpM_4 (s : MSt) (ix : Int) (zs : List Int) : stpM s ⟨4, ix, zs⟩ = s := by simp [stpM]
theorem stpM_5 (s : MSt) (ix : Int) (zs : List Int) : stpM s ⟨5, ix, zs⟩ = { s with til := ix } := by simp [stpM]

theorem RunAt.stepM {w0 w w' : World} {B : Bk} {fp : List Nat} {s : MSt} {al ws : List (Nat × Int)} {wv ov : Value} {outs : List (TR × Value)} {p : Stp} (h : RunAt w0 w B fp s al ws wv ov outs) (hl : Leaves1 w B fp (stpM { s with ws := ws } p) w') (hle : s.til ≤ (stpM s p).til) :
    ∃ fp', RunAt w0 w' B fp' (stpM s p) al ws wv ov outs := by
  rw [stpM_ws] at hl
  exact h.step hl hle

theorem wait_app (W : World) (g n cw b : Nat) (xs : List Value) (ty : TypeId) (hrow : W.ownsRow 0 51 1 (.slice (some ⟨g, 0, none⟩) n cw) n xs) (hn : n ≤ 5000) :
    ∃ v w', (Builtin.append_ #[48, 48] ty #[.slice (some ⟨g, 0, none⟩) n cw, .slice (some ⟨W.heap.size, 0, none⟩) 1 1]).run Try.prog (W.alloc (.cells #[ptr b] 51)) = .ok v w' ∧
      ∃ g' c', v = .slice (some ⟨g', 0, none⟩) (n + 1) c' ∧ w'.ownsRow 0 51 1 (.slice (some ⟨g', 0, none⟩) (n + 1) c') (n + 1) (xs ++ [ptr b]) ∧ (W.alloc (.cells #[ptr b] 51)).grownBy w' (Value.slice (some ⟨g, 0, none⟩) n cw).ownBlock ∧
        ((Value.slice (some ⟨g', 0, none⟩) (n + 1) c').ownBlock = (Value.slice (some ⟨g, 0, none⟩) n cw).ownBlock ∨ (Value.slice (some ⟨g', 0, none⟩) (n + 1) c').ownBlock = some (W.alloc (.cells #[ptr b] 51)).heap.size) := by
  obtain ⟨i0, hi, hz0, hz1, hz2⟩ := info_parts Try.info51
  obtain ⟨v', w', hrun, ho, hg, -, hloc⟩ := run_append_own_at (P := Try.prog) (W.alloc (.cells #[ptr b] 51)) 0 48 ty 51 i0 (.pointer none) 1 8 Try.underlying48 hi hz0 hz1 hz2 rfl (by decide) _ n xs (hrow.alloc _) ⟨W.heap.size, 0, none⟩ 1 1 [ptr b] rfl (cell_one_new _ _ _) (by simp [Value.oneCell']) (by unfold maxLen; omega) (by omega) (Nat.zero_le _)
  obtain ⟨g', c', rfl, -⟩ := ownsRow_value ho (by omega)
  exact ⟨_, w', hrun, g', c', rfl, ho, hg, hloc⟩

theorem out_app (W : World) (g n cw : Nat) (xs : List Value) (p : TR × Value) (ty : TypeId) (hrow : W.ownsRow 0 35 5 (.slice (some ⟨g, 0, none⟩) n cw) n xs) (hn : n ≤ 5000) (h1 : p.2.oneCell' = true) :
    ∃ v w', (Builtin.append_ #[24, 24] ty #[.slice (some ⟨g, 0, none⟩) n cw, .slice (some ⟨W.heap.size, 0, none⟩) 1 1]).run Try.prog (W.alloc (.cells #[.int .u64 p.1.til, .int .u64 p.1.last, .int .i64 p.1.pend, .int .i64 p.1.wait, p.2] 35)) = .ok v w' ∧
      ∃ g' c', v = .slice (some ⟨g', 0, none⟩) (n + 1) c' ∧ w'.ownsRow 0 35 5 (.slice (some ⟨g', 0, none⟩) (n + 1) c') (n + 1) (xs ++ outCells p) ∧ (W.alloc (.cells #[.int .u64 p.1.til, .int .u64 p.1.last, .int .i64 p.1.pend, .int .i64 p.1.wait, p.2] 35)).grownBy w' (Value.slice (some ⟨g, 0, none⟩) n cw).ownBlock ∧
        ((Value.slice (some ⟨g', 0, none⟩) (n + 1) c').ownBlock = (Value.slice (some ⟨g, 0, none⟩) n cw).ownBlock ∨ (Value.slice (some ⟨g', 0, none⟩) (n + 1) c').ownBlock = some (W.alloc (.cells #[.int .u64 p.1.til, .int .u64 p.1.last, .int .i64 p.1.pend, .int .i64 p.1.wait, p.2] 35)).heap.size) := by
  obtain ⟨i0, hi, hz0, hz1, hz2⟩ := info_parts Try.info35
  obtain ⟨v', w', hrun, ho, hg, -, hloc⟩ := run_append_own_at (P := Try.prog) (W.alloc (.cells #[.int .u64 p.1.til, .int .u64 p.1.last, .int .i64 p.1.pend, .int .i64 p.1.wait, p.2] 35)) 0 24 ty 35 i0 (.agg #[.int .u64 0, .int .u64 0, .int .i64 0, .int .i64 0, .slice none 0 0]) 5 56 Try.underlying24 hi hz0 hz1 hz2 rfl (by decide) _ n xs (hrow.alloc _) ⟨W.heap.size, 0, none⟩ 1 1 (outCells p) rfl (fun j u hu => by
    have hb := heap_alloc_new W (.cells #[.int .u64 p.1.til, .int .u64 p.1.last, .int .i64 p.1.pend, .int .i64 p.1.wait, p.2] 35)
    have : (⟨W.heap.size, 0, none⟩ : Addr).add j = ⟨W.heap.size, j, none⟩ := by unfold Addr.add; split <;> simp_all
    rw [this, cell_of_row _ _ j _ 35 (0, 0) hb]
    simpa [outCells] using hu) (by intro u hu; simp only [outCells, List.mem_cons, List.not_mem_nil, or_false] at hu; rcases hu with rfl | rfl | rfl | rfl | rfl <;> first | rfl | exact h1) (by unfold maxLen; omega) (by omega) (Nat.zero_le _)
  obtain ⟨g', c', rfl, -⟩ := ownsRow_value ho (by omega)
  exact ⟨_, w', hrun, g', c', rfl, ho, hg, hloc⟩

theorem tell_calls {w0 w : World} {B : Bk} {fp : List Nat} {S : MSt × List Int} {al ws : List (Nat × Int)} {wv ov : Value} {outs : List (TR × Value)} (h : RunAt w0 w B fp S.1 al ws wv ov outs) (hal : al.map Prod.snd = S.2) (hl : al.length ≤ 5001) :
    ∃ rt rl rp rw : Int, tell S = ⟨rt, rl, rp, rw, al.map (fun p => told S.1 p.2)⟩ ∧ Calls Try.prog 27 #[ptr B.wb] w (fun e w' => e = .returned (.int .u64 rt) ∧ w = w') ∧ Calls Try.prog 28 #[ptr B.wb] w (fun e w' => e = .returned (.int .u64 rl) ∧ w = w') ∧
      Calls Try.prog 29 #[ptr B.wb] w (fun e w' => e = .returned (.int .i64 rp) ∧ w = w') ∧ Calls Try.prog 30 #[ptr B.wb] w (fun e w' => e = .returned (.int .i64 rw) ∧ Tch [] w w') := by
  refine ⟨S.1.til, S.1.last, S.1.pl.length, waitN { S.1 with ws := ws }, ?_, until_any B fp { S.1 with ws := ws } w h.mka, last_any B fp { S.1 with ws := ws } w h.mka, pending_any B fp { S.1 with ws := ws } w h.mka, waiting_any B fp { S.1 with ws := ws } w (by have := h.wlen; show ws.length ≤ _; omega) h.mka⟩
  have e1 : (S.2.filter (fun i => !told S.1 i)).length = waitN { S.1 with ws := ws } := by
    rw [← hal, List.filter_map, List.length_map]
    have := congrArg List.length h.wait
    exact this
  have e2 : S.2.map (told S.1) = al.map (fun p => told S.1 p.2) := by rw [← hal, List.map_map]; rfl
  unfold tell
  rw [e1, e2]

/-- Between two waiters that are told. -/
structure InAt (w6 wr : World) (rt rl rp rw : Int) (fs : List Bool) (j gd cd : Nat) : Prop where
  t : Tch [] w6 wr
  box : wr.heap[w6.heap.size + 1]? = some (.cells #[.int .u64 rt, .int .u64 rl, .int .i64 rp, .int .i64 rw, .slice (some ⟨gd, 0, none⟩) j cd] 35 (0, 0))
  row : wr.ownsRow 0 4 1 (.slice (some ⟨gd, 0, none⟩) j cd) j ((fs.take j).map Value.bool)
  gn : w6.heap.size ≤ gd

theorem InAt.start (w6 : World) (rt rl rp rw : Int) (fs : List Bool) : InAt w6 ((w6.alloc (.cells #[] 4)).alloc (.cells #[.int .u64 rt, .int .u64 rl, .int .i64 rp, .int .i64 rw, .slice (some ⟨w6.heap.size, 0, none⟩) 0 0] 35)) rt rl rp rw fs 0 w6.heap.size 0 := by
  refine ⟨((Tch.refl _ _).alloc _).alloc _, ?_, ?_, Nat.le_refl _⟩
  · rw [heap_get_alloc, if_pos (by simp)]
  · exact (row_new (w := w6) 4 1).alloc _

theorem InAt.step {w6 wr : World} {rt rl rp rw : Int} {fs : List Bool} {j gd cd : Nat} (h : InAt w6 wr rt rl rp rw fs j gd cd) {f : Bool} (hj : fs.take (j + 1) = fs.take j ++ [f]) :
    ∀ v' w1, w1.ownsRow 0 4 1 v' (j + 1) ((fs.take j).map Value.bool ++ [.bool f]) → (wr.drew.alloc (.cells #[.bool f] 4)).grownBy w1 (Value.slice (some ⟨gd, 0, none⟩) j cd).ownBlock → (v'.ownBlock = (Value.slice (some ⟨gd, 0, none⟩) j cd).ownBlock ∨ v'.ownBlock = some (wr.drew.alloc (.cells #[.bool f] 4)).heap.size) →
      w1.frozen? ⟨w6.heap.size + 1, 4, none⟩ = false ∧ w1.cell? ⟨w6.heap.size + 1, 4, none⟩ = some (.slice (some ⟨gd, 0, none⟩) j cd) ∧ ∃ g c, v' = .slice (some ⟨g, 0, none⟩) (j + 1) c ∧ InAt w6 (w1.setCell ⟨w6.heap.size + 1, 4, none⟩ (.slice (some ⟨g, 0, none⟩) (j + 1) c)) rt rl rp rw fs (j + 1) g c := by
  intro v' w1 ho hg hloc
  have T0 : Tch [] wr (wr.drew.alloc (.cells #[.bool f] 4)) := ((Tch.refl _ _).drew).alloc _
  have T1 : Tch [gd] wr w1 := (T0.mono (by simp)).grown hg (by intro k hk _; simp [Value.ownBlock] at hk; simp [hk])
  obtain ⟨cur, hcur⟩ := ownsRow_block h.row (g := gd) rfl
  have hne : w6.heap.size + 1 ∉ [gd] := by
    intro hm
    have hm := List.mem_singleton.1 hm
    exact cells_ne h.box hcur (by decide) hm
  have hb1 := T1.obj h.box hne
  obtain ⟨g, c, rfl, -, hgl⟩ := ownsRow_value ho (by omega)
  obtain ⟨cur2, hcur2⟩ := ownsRow_block ho (g := g) rfl
  have hs' := heap_setCell_same w1 (w6.heap.size + 1) 4 _ 35 (.slice (some ⟨g, 0, none⟩) (j + 1) c) hb1
  refine ⟨frozen_of_row w1 _ 4 _ 35 hb1, by rw [cell_of_row w1 _ _ _ 35 (0, 0) hb1]; rfl, g, c, rfl, ?_, by simpa using hs', ?_, ?_⟩
  · refine (h.t.then T1 (fun i hi hm => ?_)).setCell (p := ⟨w6.heap.size + 1, 4, none⟩) (fun hlt => by simp only at hlt; omega) _
    have := List.mem_singleton.1 hm
    have := h.gn
    omega
  · have T2 : Tch [w6.heap.size + 1] w1 (w1.setCell ⟨w6.heap.size + 1, 4, none⟩ (.slice (some ⟨g, 0, none⟩) (j + 1) c)) := (Tch.refl _ _).setCell (p := ⟨w6.heap.size + 1, 4, none⟩) (fun _ => by simp) _
    rw [hj, List.map_append]
    refine T2.own ho (fun k hk hm => ?_)
    have hk : g = k := by simpa [Value.ownBlock] using hk
    have hm := List.mem_singleton.1 hm
    exact cells_ne hcur2 hb1 (by decide) (by omega)
  · rcases hloc with e | e
    · have e : g = gd := by simpa [Value.ownBlock] using e
      rw [e]; exact h.gn
    · have e : g = (wr.drew.alloc (.cells #[.bool f] 4)).heap.size := by simpa [Value.ownBlock] using e
      have h1 := h.t.size
      have h2 := T0.size
      omega

theorem cellOfP {w : World} {g n cap : Nat} {al : List (Nat × Int)} (hown : w.ownsRow 0 51 1 (.slice (some ⟨g, 0, none⟩) n cap) n (al.map fun p => ptr p.1)) {i : Nat} (hi : i < n) {p : Nat × Int} (hp : al[i]? = some p) :
    w.cell? ⟨g, i, none⟩ = some (ptr p.1) := by
  rw [hown.cellAt i (by omega), List.getElem?_map, hp]; rfl

set_option maxRecDepth 100000
set_option maxHeartbeats 2000000 in
theorem runMark_any (L : List Stp) (sa : Option Addr) (cz : Nat) (w : World) (hok : okRun L) (hwt : wt L ≤ 5000) (hll : L.length ≤ 5000) (hst : StepsAt w sa L) :
    Calls Try.prog 15 #[.slice sa L.length cz] w fun e w' => ∃ ov outs, e = .returned ov ∧ OutAt w w' ov outs ∧ outs.map Prod.fst = (List.range L.length).map (fun k => tell (St L (k + 1))) := by
  have HN := Lib.hid (new_any w)
  have HOK := Lib.hid hok
  have HST := Lib.hid hst
  clear hok hst
  go_enter Try.func15, Try.ntmps15
  go_wp2_with (go_at_call 20; refine HN.out.mono ?_; rintro e w1 ⟨B, fp, rfl, hm, hfn, ht⟩; have HMK := Lib.hid hm; clear hm)
  obtain ⟨fp0, hm0, hf0⟩ := HMK.out.shrink
  have hrun0 : RunAt w ((w1.alloc (.cells #[] 51)).alloc (.cells #[] 35)) B fp0 new0 [] [] (.slice (some ⟨w1.heap.size, 0, none⟩) 0 0) (.slice (some ⟨w1.heap.size + 1, 0, none⟩) 0 0) [] := by
    have ta : Tch [] w1 ((w1.alloc (.cells #[] 51)).alloc (.cells #[] 35)) := ((Tch.refl _ _).alloc _).alloc _
    have hs := ht.size
    refine ⟨ht.trans ta, hm0.tch ta (by simp), fun k hk => ⟨hfn k (hf0 k hk).1, Nat.lt_of_lt_of_le (hf0 k hk).2 ta.size⟩, (row_new (w := w1) 51 1).alloc _, ?_, ?_, ?_, by simp, by simp, by simp, by simp, by simp, by simp⟩
    · intro k hk
      have hk : w1.heap.size = k := by simpa [Value.ownBlock] using hk
      exact ⟨by omega, fun hm => by have := (hf0 k hm).2; omega⟩
    · have := row_new (w := w1.alloc (.cells #[] 51)) 35 5
      simpa using this
    · intro k hk
      have hk : w1.heap.size + 1 = k := by simpa [Value.ownBlock] using hk
      exact ⟨by omega, fun hm => by have := (hf0 k hm).2; omega⟩
  have HR0 := Lib.hid hrun0
  clear hrun0 HMK hf0 hm0 hfn ht HN
  go_loopg [4, 5, 17] L.length (fun n s4 s5 s17 wr => ∃ (k : Nat) (fp : List Nat) (al ws : List (Nat × Int)) (outs : List (TR × Value)) (g cw h co : Nat), k ≤ L.length ∧ n = L.length - k ∧ s17 = .int .i64 k ∧ s4 = .slice (some ⟨g, 0, none⟩) al.length cw ∧ s5 = .slice (some ⟨h, 0, none⟩) k co ∧
      Hid (RunAt w wr B fp (St L k).1 al ws (.slice (some ⟨g, 0, none⟩) al.length cw) (.slice (some ⟨h, 0, none⟩) k co) outs ∧ al.map Prod.snd = (St L k).2 ∧ outs.map Prod.fst = (List.range k).map (fun k => tell (St L (k + 1)))))
  case atStart => exact ⟨0, fp0, [], [], [], _, _, _, _, Nat.zero_le _, rfl, rfl, rfl, rfl, HR0.out, rfl, rfl⟩
  case round =>
    obtain ⟨k, fp, al, ws, outs, g, cw, h, co, hk, rfl, rfl, rfl, rfl, HR⟩ := hrel
    obtain ⟨wo, rfl⟩ : ∃ wo : World, wo = wr := ⟨_, rfl⟩
    clear HR0
    by_cases hlt : k < L.length
    · have hlt2 : (k : Int) < L.length := by omega
      obtain ⟨a, rfl, hsa⟩ := HST.out k hlt
      have hsa := hsa.tch HR.out.1.t
      have hgood := St_good HOK.out k hk
      have hok1 := HOK.out k hlt
      generalize hp : L.getD k default = p at *
      obtain ⟨kd, ix, zs⟩ := p
      obtain ⟨am, cm, m1, m2, m3⟩ := hsa.many
      have k0 : wo.cell? (a.add (k * 3)) = some (.int .i64 kd) := hsa.kind
      have k1 : wo.cell? ⟨(a.add (k * 3)).block, (a.add (k * 3)).off + 1, none⟩ = some (.int .u64 ix) := hsa.idx
      have m1 : wo.cell? ⟨(a.add (k * 3)).block, (a.add (k * 3)).off + 2, none⟩ = some (.slice am zs.length cm) := m1
      have kl := hsa.lt
      have hz5 : zs.length ≤ 5000 := by
        have h1 := wt_succ (L := L) hlt
        have h2 := wt_take L (k + 1)
        rw [hp] at h1
        simp only at h1
        omega
      have tb : Tch [] wo (wo.alloc (.cells #[.int .i64 kd, .int .u64 ix, .slice am zs.length cm] 31)) := (Tch.refl _ _).alloc _
      have HCP := Lib.hid (copy_run (wo.alloc (.cells #[.int .i64 kd, .int .u64 ix, .slice am zs.length cm] 31)) (wo.heap.size + 1) (by simp) 29 am cm zs hz5 m2 (fun ad hd j hj => ⟨Nat.lt_of_lt_of_le (m3 ad hd j hj).1 tb.size, by
        rw [tb.cell (by rw [add_block]; exact (m3 ad hd j hj).1) (by simp)]
        exact (m3 ad hd j hj).2⟩))
      have HBX := Lib.hid (heap_alloc_new wo (.cells #[.int .i64 kd, .int .u64 ix, .slice am zs.length cm] 31))
      have HTB := Lib.hid tb
      have HOK1 := Lib.hid hok1
      have HG := Lib.hid hgood
      have HP := Lib.hid hp
      clear hp hgood hok1 m2 m3 hsa tb
      go_upto_region 7 with fail
      iterate 40 (try ((fail_if_success at_builtin); (first | go_values | go_skip | go_guarded | go_step | go_upon | go_back | (simp only [Int.not_lt, Int.not_le] at *; go_simp))))
      refine wpList_append_run rfl (.tmp 21) (.tmp 23) 29 rfl (.slice (some ⟨wo.heap.size + 1, 0, none⟩) 0 0) (.slice am zs.length cm) (by simp [Act.eval]) (by simp [Act.eval]) _ HCP.out ?_
      rintro vv w5 ⟨gz, cz2, rfl, ho5, hg5, ht5⟩
      have q5 := ht5.obj HBX.out (by simp)
      have hR5 := HR.out.1.tch (HTB.out.trans ht5)
      have hgz : gz ∉ fp := fun hm => by
        have h1 := (HR.out.1.fn gz hm).2
        have h2 := HTB.out.size
        omega
      obtain ⟨g1, g2, g3⟩ := HG.out
      have hwl := wt_take L k
      have hal := HR.out.2.1
      have hall : al.length ≤ 5000 := by
        have : al.length = (St L k).2.length := by rw [← hal, List.length_map]
        omega
      have hG9 : Good { (St L k).1 with ws := ws } 90000 := (g1.mono (by omega)).ws hR5.wnd (by have := hR5.wlen; omega)
      have hwsl : ws.length ≤ 5000 := by have := hR5.wlen; omega
      have hs := St_succ hlt
      rw [HP.out] at hs
      have hle := (g1.stp HOK1.out).2
      have q0 : w5.cell? ⟨wo.heap.size, 0, none⟩ = some (.int .i64 kd) := (by rw [cell_of_row w5 _ _ _ 31 (0, 0) q5]; rfl)
      have q1 : w5.cell? ⟨wo.heap.size, 1, none⟩ = some (.int .u64 ix) := (by rw [cell_of_row w5 _ _ _ 31 (0, 0) q5]; rfl)
      have HO5 := Lib.hid ho5
      have HR5 := Lib.hid hR5
      have HS := Lib.hid hs
      have HLE := Lib.hid hle
      have HG9 := Lib.hid hG9
      have HAL := Lib.hid hal
      have HOU := Lib.hid HR.out.2.2
      have HGZ := Lib.hid hgz
      clear ho5 ht5 q5 HR HBX HTB HCP HG hR5 hs hle hG9 hal hgz g1 g2 g3 hwl k0 k1 m1 kl hg5
      go_upto_block 2 with fail
      go_cut [4] from 18 to 94 (fun s4 wx => ∃ (fp' : List Nat) (al' ws' : List (Nat × Int)) (g' cw' : Nat), s4 = .slice (some ⟨g', 0, none⟩) al'.length cw' ∧ al'.length ≤ 5001 ∧ Hid (RunAt w wx B fp' (St L (k + 1)).1 al' ws' (.slice (some ⟨g', 0, none⟩) al'.length cw') (.slice (some ⟨h, 0, none⟩) k co) outs ∧ al'.map Prod.snd = (St L (k + 1)).2))
      case first =>
        rcases HOK1.out with ⟨hk0, h1, h2⟩ | ⟨hk0, h1, h2⟩ | ⟨hk0, c, h1, h2⟩ | ⟨hk0, h1, h2⟩ | hk0 | ⟨hk0, h1, h2, h3, h4⟩
        · have hk0 : kd = 0 := hk0
          subst hk0
          have HB := Lib.hid (begin_any ix B fp _ w5 HG9.out h1 h2 HR5.out.mka)
          clear h1 h2
          go_wp2_with (go_at_call 21; refine HB.out.mono ?_; rintro e w6 ⟨rfl, hl6⟩; have HL6 := Lib.hid hl6; clear hl6)
          go_meet
          obtain ⟨fp', hr'⟩ := HR5.out.stepM (p := ⟨0, ix, zs⟩) (by rw [stpM_0]; exact HL6.out) HLE.out
          exact ⟨fp', al, ws, g, cw, rfl, by omega, by rw [HS.out]; exact hr', by rw [HS.out, HAL.out]; simp [stp, stpA]⟩
        · have hk0 : kd = 1 := hk0
          subst hk0
          have HB := Lib.hid (beginMany_any zs gz cz2 B fp _ w5 HG9.out hz5 h1 (okMany_ws _ _ _ _ h2) HO5.out HGZ.out HR5.out.mka)
          clear h1 h2
          go_wp2_with (go_at_call 22; refine HB.out.mono ?_; rintro e w6 ⟨rfl, hl6⟩; have HL6 := Lib.hid hl6; clear hl6)
          go_meet
          obtain ⟨fp', hr'⟩ := HR5.out.stepM (p := ⟨1, ix, zs⟩) (by rw [stpM_1]; exact HL6.out) HLE.out
          exact ⟨fp', al, ws, g, cw, rfl, by omega, by rw [HS.out]; exact hr', by rw [HS.out, HAL.out]; simp [stp, stpA]⟩
        · have hk0 : kd = 2 := hk0
          subst hk0
          have HB := Lib.hid (done_any ix c B fp _ w5 HG9.out h1 h2 HR5.out.mka)
          clear h1 h2
          go_wp2_with (go_at_call 23; refine HB.out.mono ?_; rintro e w6 ⟨rfl, hl6⟩; have HL6 := Lib.hid hl6; clear hl6)
          go_meet
          obtain ⟨fp', hr'⟩ := HR5.out.stepM (p := ⟨2, ix, zs⟩) (by rw [stpM_2]; exact HL6.out) HLE.out
          exact ⟨fp', al, ws, g, cw, rfl, by omega, by rw [HS.out]; exact hr', by rw [HS.out, HAL.out]; simp [stp, stpA]⟩
        · have hk0 : kd = 3 := hk0
          subst hk0
          have hgz2 : ∀ q, (Value.slice (some ⟨gz, 0, none⟩) zs.length cz2).ownBlock = some q → q ∉ fp := by
            intro q hq
            have hq : gz = q := by simpa [Value.ownBlock] using hq
            rw [← hq]; exact HGZ.out
          have HB := Lib.hid (doneMany_any zs (some ⟨gz, 0, none⟩) cz2 B fp _ w5 HG9.out hz5 h1 (okMany_ws _ _ _ _ h2) HO5.out (fun q hq => hgz2 q hq) HR5.out.mka)
          clear h1 h2 hgz2
          go_wp2_with (go_at_call 24; refine HB.out.mono ?_; rintro e w6 ⟨rfl, hl6⟩; have HL6 := Lib.hid hl6; clear hl6)
          go_meet
          obtain ⟨fp', hr'⟩ := HR5.out.stepM (p := ⟨3, ix, zs⟩) (by rw [stpM_3]; exact HL6.out) HLE.out
          exact ⟨fp', al, ws, g, cw, rfl, by omega, by rw [HS.out]; exact hr', by rw [HS.out, HAL.out]; simp [stp, stpA]⟩
        · have hk0 : kd = 4 := hk0
          subst hk0
          have HB := Lib.hid (wait_any ix B fp _ w5 (by show ws.length ≤ _; omega) HR5.out.mka)
          go_wp2_with (first | (go_at_call 25; refine HB.out.mono ?_; rintro e w6 ⟨b, fp1, rfl, hb1, hb2, hb3, hb4, hb5, hb6⟩; have HA := Lib.hid (wait_app w6 g al.length cw b _ 48 (hb4.own HR5.out.wrow (fun q hq => (HR5.out.wn q hq).2)) hall); have HB1 := Lib.hid hb1; have HB2 := Lib.hid hb2; have HB3 := Lib.hid hb3; have HB4 := Lib.hid hb4; have HB5 := Lib.hid hb5; have HB6 := Lib.hid hb6; clear hb1 hb2 hb3 hb4 hb5 hb6) | (at_builtin; refine wpList_append_run rfl (.tmp 51) (.tmp 56) 48 rfl (.slice (some ⟨g, 0, none⟩) al.length cw) (.slice (some ⟨w6.heap.size, 0, none⟩) 1 1) (by simp [Act.eval]) (by simp [Act.eval]) _ HA.out ?_; rintro vv w7 ⟨g', c', rfl, n1, n2, n3⟩; have HN1 := Lib.hid n1; have HN2 := Lib.hid n2; have HN3 := Lib.hid n3; clear n1 n2 n3))
          go_meet
          obtain ⟨fp', ws', hr'⟩ := HR5.out.waited HB1.out HB2.out HB3.out HB4.out HB5.out HB6.out HN1.out HN2.out HN3.out
          exact ⟨fp', al ++ [(b, ix)], ws', g', c', by rw [List.length_append]; rfl, by rw [List.length_append]; simp; omega, by rw [HS.out, List.length_append]; show RunAt w _ B fp' (stpM _ ⟨4, ix, zs⟩) _ _ _ _ _; rw [stpM_4]; exact hr', by rw [HS.out, List.map_append, HAL.out]; simp [stp, stpA]⟩
        · have hk0 : kd = 5 := hk0
          subst hk0
          have HB := Lib.hid (set_any ix B fp { (St L k).1 with ws := ws } w5 h3 (fun p hp => h2 p.2 (by rw [← HAL.out]; exact List.mem_map.2 ⟨p, HR5.out.sub p hp, rfl⟩)) HR5.out.mka)
          clear h1 h2 h3 h4
          go_wp2_with (go_at_call 26; refine HB.out.mono ?_; rintro e w6 ⟨rfl, hl6⟩; have HL6 := Lib.hid hl6; clear hl6)
          go_meet
          obtain ⟨fp', hr'⟩ := HR5.out.stepM (p := ⟨5, ix, zs⟩) (by rw [stpM_5]; exact HL6.out) HLE.out
          exact ⟨fp', al, ws, g, cw, rfl, by omega, by rw [HS.out]; exact hr', by rw [HS.out, HAL.out]; simp [stp, stpA]⟩
      case rest =>
        obtain ⟨fp', al', ws', g', cw', rfl, hal', HR'⟩ := hcut
        have hk1 : k + 1 ≤ L.length := hlt
        clear HR5 HS HLE HG9 HAL HGZ HO5 HOK1 q0 q1
        obtain ⟨rt, rl, rp, rw', htl, c27, c28, c29, c30⟩ := tell_calls HR'.out.1 HR'.out.2 hal'
        obtain ⟨j0, hj, hz0, hz1, hz2⟩ := info_parts Try.info4
        have HTL := Lib.hid htl
        have HC27 := Lib.hid c27
        have HC28 := Lib.hid c28
        have HC29 := Lib.hid c29
        have HC30 := Lib.hid c30
        clear htl c27 c28 c29 c30
        go_wp2_with (first | (go_at_call 27; refine HC27.out.mono ?_; rintro e w6 ⟨rfl, rfl⟩) | (go_at_call 28; refine HC28.out.mono ?_; rintro e w6 ⟨rfl, rfl⟩) | (go_at_call 29; refine HC29.out.mono ?_; rintro e w6 ⟨rfl, rfl⟩) | (go_at_call 30; refine HC30.out.mono ?_; rintro e w6 ⟨rfl, ht6⟩; have HT6 := Lib.hid ht6; clear ht6))
        have HST0 := Lib.hid (InAt.start w6 rt rl rp rw' (al'.map (fun p => told (St L (k + 1)).1 p.2)))
        go_loopg [76] al'.length (fun n s76 wr => ∃ (j gd cd : Nat), j ≤ al'.length ∧ n = al'.length - j ∧ s76 = .int .i64 j ∧ Hid (InAt w6 wr rt rl rp rw' (al'.map (fun p => told (St L (k + 1)).1 p.2)) j gd cd))
        case atStart => exact ⟨0, _, _, Nat.zero_le _, rfl, rfl, HST0.out⟩
        case round =>
          obtain ⟨j, gd, cd, hjl, rfl, rfl, HIN⟩ := hrel
          clear HST0
          by_cases hj2 : j < al'.length
          · obtain ⟨p, hp⟩ : ∃ p, al'[j]? = some p := ⟨_, List.getElem?_eq_getElem hj2⟩
            have hpm : p ∈ al' := List.mem_of_getElem? hp
            have hj3 : (j : Int) < al'.length := by omega
            have hrr := (HR'.out.1.tch HT6.out).tch HIN.out.t
            have ce := cellOfP hrr.wrow hj2 hp
            have hf := hrr.flag p hpm
            have hb := HIN.out.box
            have cf := cell_of_one hf
            have b4 : wr.cell? ⟨w6.heap.size + 1, 4, none⟩ = some (.slice (some ⟨gd, 0, none⟩) j cd) := by rw [cell_of_row wr _ _ _ 35 (0, 0) hb]; rfl
            have ff := frozen_of_row wr _ 4 _ 35 hb
            have HK := Lib.hid (HIN.out.step (f := told (St L (k + 1)).1 p.2) (by
              rw [take_getD _ false (by rw [List.length_map]; exact hj2)]
              congr 2
              simp [List.getD, List.getElem?_map, hp]))
            have HRW := Lib.hid HIN.out.row
            have HJ := Lib.hid hj
            have hl1 := lt_of_obj hb
            have hl2 := lt_of_obj hf
            obtain ⟨pb, pi⟩ := p
            generalize hff : told (St L (k + 1)).1 pi = f at *
            have HFF := Lib.hid hff
            clear hrr hf hb hp hpm hff HIN hj
            go_wp2_with fail
            go_region_law (refine step_append_own rfl (.tmp 81) (.tmp 86) 33 rfl 0 4 j0 (.bool false) 1 1 Try.underlying33 HJ.out hz0 hz1 hz2 rfl (by decide) (.slice (some ⟨gd, 0, none⟩) j cd) _ _ (by simp [Act.eval]) (HRW.out.alloc _) ⟨wr.heap.size, 0, none⟩ 1 1 [.bool f] (by simp [Act.eval]) rfl (cell_one_new _ _ _) (by simp [Value.oneCell']) (by unfold maxLen; omega) (by omega) (Nat.zero_le _) ?_; intro v' w7 ho hg hloc; obtain ⟨n1, n2, g2, c2, rfl, hk⟩ := HK.out _ _ ho hg hloc; have HK2 := Lib.hid hk; clear hk ho hg hloc)
            all_goals (go_wp2_with fail; go_roundg (al'.length - (j + 1)))
            all_goals first
              | exact ⟨j + 1, g2, c2, by omega, rfl, by go_num, HK2.out⟩
              | omega
          · obtain rfl : j = al'.length := by omega
            have hol : outs.length = k := by
              have := congrArg List.length HOU.out
              simpa using this
            have hkl : outs.length ≤ 5000 := by omega
            have h6 := HR'.out.1.tch HT6.out
            have h7 := h6.tch HIN.out.t
            have hb := HIN.out.box
            have e0 : wr.cell? ⟨w6.heap.size + 1, 0, none⟩ = some (.int .u64 rt) := by rw [cell_of_row wr _ _ _ 35 (0, 0) hb]; rfl
            have e1 : wr.cell? ⟨w6.heap.size + 1, 1, none⟩ = some (.int .u64 rl) := by rw [cell_of_row wr _ _ _ 35 (0, 0) hb]; rfl
            have e2 : wr.cell? ⟨w6.heap.size + 1, 2, none⟩ = some (.int .i64 rp) := by rw [cell_of_row wr _ _ _ 35 (0, 0) hb]; rfl
            have e3 : wr.cell? ⟨w6.heap.size + 1, 3, none⟩ = some (.int .i64 rw') := by rw [cell_of_row wr _ _ _ 35 (0, 0) hb]; rfl
            have e4 : wr.cell? ⟨w6.heap.size + 1, 4, none⟩ = some (.slice (some ⟨gd, 0, none⟩) al'.length cd) := by rw [cell_of_row wr _ _ _ 35 (0, 0) hb]; rfl
            have hrow : wr.ownsRow 0 35 5 (.slice (some ⟨h, 0, none⟩) k co) k (outs.flatMap outCells) := by
              have := h7.orow
              rw [hol] at this; exact this
            have hdr : wr.ownsRow 0 4 1 (.slice (some ⟨gd, 0, none⟩) al'.length cd) (al'.map (fun p => told (St L (k + 1)).1 p.2)).length ((al'.map (fun p => told (St L (k + 1)).1 p.2)).map Value.bool) := by
              have := HIN.out.row
              rw [List.take_of_length_le (by rw [List.length_map]; exact Nat.le_refl _)] at this
              rw [List.length_map]; exact this
            have HA := Lib.hid (out_app wr h k co (outs.flatMap outCells) ((⟨rt, rl, rp, rw', al'.map (fun p => told (St L (k + 1)).1 p.2)⟩, .slice (some ⟨gd, 0, none⟩) al'.length cd) : TR × Value) 24 hrow (by omega) rfl)
            have HFIN : Hid (∀ (g7 c7 : Nat) (w7 : World), w7.ownsRow 0 35 5 (.slice (some ⟨g7, 0, none⟩) (k + 1) c7) (k + 1) (outs.flatMap outCells ++ outCells ((⟨rt, rl, rp, rw', al'.map (fun p => told (St L (k + 1)).1 p.2)⟩, .slice (some ⟨gd, 0, none⟩) al'.length cd) : TR × Value)) →
                (wr.alloc (.cells #[.int .u64 rt, .int .u64 rl, .int .i64 rp, .int .i64 rw', .slice (some ⟨gd, 0, none⟩) al'.length cd] 35)).grownBy w7 (Value.slice (some ⟨h, 0, none⟩) k co).ownBlock →
                ((Value.slice (some ⟨g7, 0, none⟩) (k + 1) c7).ownBlock = (Value.slice (some ⟨h, 0, none⟩) k co).ownBlock ∨ (Value.slice (some ⟨g7, 0, none⟩) (k + 1) c7).ownBlock = some (wr.alloc (.cells #[.int .u64 rt, .int .u64 rl, .int .i64 rp, .int .i64 rw', .slice (some ⟨gd, 0, none⟩) al'.length cd] 35)).heap.size) →
                ∃ outs', RunAt w w7 B fp' (St L (k + 1)).1 al' ws' (.slice (some ⟨g', 0, none⟩) al'.length cw') (.slice (some ⟨g7, 0, none⟩) (k + 1) c7) outs' ∧ outs'.map Prod.fst = (List.range (k + 1)).map (fun k => tell (St L (k + 1)))) := by
              refine Lib.hid (fun g7 c7 w7 n1 n2 n3 => ⟨_, h6.tells (r := ⟨rt, rl, rp, rw', al'.map (fun p => told (St L (k + 1)).1 p.2)⟩) (dv := .slice (some ⟨gd, 0, none⟩) al'.length cd) HIN.out.t hdr ?_ (by rw [hol]; exact n1) n2 n3, ?_⟩)
              · intro q hq
                have hq : gd = q := by simpa [Value.ownBlock] using hq
                have := HIN.out.gn
                omega
              · rw [List.map_append, HOU.out, List.range_succ, List.map_append]
                simp only [List.map_cons, List.map_nil]
                rw [HTL.out]
            have hk2 : (k : Int) < 5000 := by omega
            have l1 := lt_of_obj hb
            clear hol hkl h6 h7 hb hrow hdr HIN hj2
            go_wp2_with (at_builtin; refine wpList_append_run rfl (.tmp 90) (.tmp 92) 24 rfl (.slice (some ⟨h, 0, none⟩) k co) (.slice (some ⟨wr.heap.size, 0, none⟩) 1 1) (by simp [Act.eval]) (by simp [Act.eval]) _ HA.out ?_; rintro vv w7 ⟨g7, c7, rfl, n1, n2, n3⟩; obtain ⟨outs7, hR7⟩ := HFIN.out _ _ _ n1 n2 n3; have HR7 := Lib.hid hR7; clear hR7 n1 n2 n3)
            go_roundg (L.length - (k + 1))
            case rel => exact ⟨k + 1, fp', al', ws', outs7, g', cw', g7, c7, by omega, rfl, by go_num, rfl, rfl, HR7.out.1, HR'.out.2, HR7.out.2⟩
            case measure => omega
    · obtain rfl : k = L.length := by omega
      clear hlt hk HST
      go_wp2_with fail
      go_ret
      obtain ⟨hr, hal, ho⟩ := HR.out
      have hlen : outs.length = L.length := by
        have := congrArg List.length ho
        simpa using this
      refine ⟨_, outs, rfl, ⟨hr.t, ?_, fun k hk => (hr.on k hk).1, fun p hp => ⟨(hr.dn p hp).1, fun k hk => ((hr.dn p hp).2 k hk).1⟩⟩, ho⟩
      exact hr.orow
end Go.Proofs.Ytaheafmdkbobcaa
