/- spec's run over its water mark in memory: what stands between two steps. -/
import Derived.Test.YtaheafmdkbobcaaSpecN
namespace Go.Proofs.Ytaheafmdkbobcaa
open Go.RowKit

/-- Where spec's run stands between two steps. -/
structure SRun (w0 w : World) (tb : Nat) (fp : List Nat) (N : Nat) (q : MSt × List Int) (ov : Value) (outs : List (TR × Value)) : Prop where
  t : Tch [] w0 w
  sp : SpAt w tb fp N q
  fn : ∀ k ∈ fp, w0.heap.size ≤ k ∧ k < w.heap.size
  orow : w.ownsRow 0 35 5 ov outs.length (outs.flatMap outCells)
  on : ∀ k, ov.ownBlock = some k → w0.heap.size ≤ k ∧ k ∉ fp
  dn : ∀ p ∈ outs, w.ownsRow 0 4 1 p.2 p.1.done.length (p.1.done.map Value.bool) ∧ ∀ k, p.2.ownBlock = some k → w0.heap.size ≤ k ∧ k ∉ fp

section
variable {w0 w w' : World} {tb : Nat} {fp : List Nat} {N M : Nat} {q q' : MSt × List Int} {ov : Value} {outs : List (TR × Value)}

theorem SRun.tch (h : SRun w0 w tb fp N q ov outs) (t : Tch [] w w') : SRun w0 w' tb fp N q ov outs :=
  ⟨h.t.trans t, h.sp.tch t, fun k hk => ⟨(h.fn k hk).1, Nat.lt_of_lt_of_le (h.fn k hk).2 t.size⟩, t.own h.orow (by simp), h.on, fun p hp => ⟨t.own (h.dn p hp).1 (by simp), (h.dn p hp).2⟩⟩

theorem SRun.step (h : SRun w0 w tb fp N q ov outs) (hl : LeavesT w tb fp M q' w') : ∃ fp', SRun w0 w' tb fp' M q' ov outs := by
  obtain ⟨fp1, m1, f1, t1⟩ := hl
  obtain ⟨fp2, m2, f2⟩ := m1.shrink
  have T : Tch [] w0 w' := h.t.then t1 (fun i hi hm => absurd (h.fn i hm).1 (by omega))
  have K : ∀ k, k < w.heap.size → k ∉ fp → k ∉ fp2 := by
    intro k hk hn hm
    rcases f1 k (f2 k hm).1 with h1 | h1
    · exact hn h1
    · omega
  refine ⟨fp2, T, m2, fun k hk => ⟨?_, (f2 k hk).2⟩, t1.own h.orow (fun k hk => (h.on k hk).2), fun k hk => ⟨(h.on k hk).1, K k (own_lt h.orow hk) (h.on k hk).2⟩,
    fun p hp => ⟨t1.own (h.dn p hp).1 (fun k hk => ((h.dn p hp).2 k hk).2), fun k hk => ⟨((h.dn p hp).2 k hk).1, K k (own_lt (h.dn p hp).1 hk) ((h.dn p hp).2 k hk).2⟩⟩⟩
  rcases f1 k (f2 k hk).1 with h1 | h1
  · exact (h.fn k h1).1
  · exact Nat.le_trans h.t.size h1

/-- What is told is put behind the others. -/
theorem SRun.tells {w2 w3 : World} {r : TR} {dv ov' : Value} {o : Obj} (h : SRun w0 w tb fp N q ov outs) (t : Tch [] w w2) (hd : w2.ownsRow 0 4 1 dv r.done.length (r.done.map Value.bool)) (hdn : ∀ k, dv.ownBlock = some k → w.heap.size ≤ k)
    (ho : w3.ownsRow 0 35 5 ov' (outs.length + 1) (outs.flatMap outCells ++ outCells (r, dv))) (hg : (w2.alloc o).grownBy w3 ov.ownBlock) (hloc : ov'.ownBlock = ov.ownBlock ∨ ov'.ownBlock = some (w2.alloc o).heap.size) :
    SRun w0 w3 tb fp N q ov' (outs ++ [(r, dv)]) := by
  have h2 := h.tch t
  have hwb : ∀ k ∈ ov.ownBlock.toList, ov.ownBlock = some k := fun k hk => by cases hv : ov.ownBlock <;> simp_all
  have T2 : Tch ov.ownBlock.toList w2 w3 := (((Tch.refl [] w2).alloc o).mono (by simp)).grown hg (fun k hk _ => by rw [hk]; simp)
  have keep : ∀ {e : TypeId} {size : Nat} {v : Value} {n : Nat} {xs : List Value}, w2.ownsRow 0 e size v n xs → e ≠ 35 → w3.ownsRow 0 e size v n xs := by
    intro e size v n xs hv he
    refine T2.own hv (fun g hg hm => ?_)
    obtain ⟨c1, h3⟩ := ownsRow_block hv hg
    obtain ⟨c2, h4⟩ := ownsRow_block h2.orow (hwb g hm)
    exact cells_ne h3 h4 he rfl
  have hs2 := t.size
  have hs3 := T2.size
  have hs0 := h.t.size
  obtain ⟨va, vw, all, hd2, hf2⟩ := h2.sp
  refine ⟨h2.t.then T2 (fun i hi hm => absurd (h.on i (hwb i hm)).1 (by omega)), ⟨va, vw, all, hd2.tch T2 (fun k hk hm => (h.on k (hwb k hm)).2 (hf2 k hk)), hf2⟩, fun k hk => ⟨(h.fn k hk).1, by have := (h2.fn k hk).2; omega⟩,
    by simpa [List.flatMap_append] using ho, ?_, ?_⟩
  · intro k hk
    rcases hloc with e | e
    · rw [e] at hk; exact h.on k hk
    · rw [e] at hk
      have hk : (w2.alloc o).heap.size = k := by simpa using hk
      have hsz : (w2.alloc o).heap.size = w2.heap.size + 1 := by simp
      exact ⟨by omega, fun hm => by have := (h2.fn k hm).2; omega⟩
  · intro p hp
    rcases List.mem_append.1 hp with hp | hp
    · exact ⟨keep (h2.dn p hp).1 (by decide), (h2.dn p hp).2⟩
    · have hp := List.mem_singleton.1 hp
      subst hp
      exact ⟨keep hd (by decide), fun k hk => ⟨by have := hdn k hk; omega, fun hm => by have := hdn k hk; have := (h.fn k hm).2; omega⟩⟩
end

/-- Between two waiters that are told, the box at bx. -/
structure InB (w6 wr : World) (bx : Nat) (rt rl rp rw : Int) (fs : List Bool) (j gd cd : Nat) : Prop where
  t : Tch [] w6 wr
  box : wr.heap[bx]? = some (.cells #[.int .u64 rt, .int .u64 rl, .int .i64 rp, .int .i64 rw, .slice (some ⟨gd, 0, none⟩) j cd] 35 (0, 0))
  row : wr.ownsRow 0 4 1 (.slice (some ⟨gd, 0, none⟩) j cd) j ((fs.take j).map Value.bool)
  gn : w6.heap.size ≤ gd
  bn : w6.heap.size ≤ bx

theorem InB.step {w6 wr : World} {bx : Nat} {rt rl rp rw : Int} {fs : List Bool} {j gd cd : Nat} (h : InB w6 wr bx rt rl rp rw fs j gd cd) {f : Bool} (hj : fs.take (j + 1) = fs.take j ++ [f]) {Wp : World} (hW : Wp.Alike (wr.alloc (.cells #[.bool f] 4))) :
    ∀ v' w1, w1.ownsRow 0 4 1 v' (j + 1) ((fs.take j).map Value.bool ++ [.bool f]) → Wp.grownBy w1 (Value.slice (some ⟨gd, 0, none⟩) j cd).ownBlock → (v'.ownBlock = (Value.slice (some ⟨gd, 0, none⟩) j cd).ownBlock ∨ v'.ownBlock = some Wp.heap.size) →
      w1.frozen? ⟨bx, 4, none⟩ = false ∧ w1.cell? ⟨bx, 4, none⟩ = some (.slice (some ⟨gd, 0, none⟩) j cd) ∧ ∃ g c, v' = .slice (some ⟨g, 0, none⟩) (j + 1) c ∧ InB w6 (w1.setCell ⟨bx, 4, none⟩ (.slice (some ⟨g, 0, none⟩) (j + 1) c)) bx rt rl rp rw fs (j + 1) g c := by
  intro v' w1 ho hg hloc
  have T0 : Tch [] wr Wp := Tch.alike ((Tch.refl _ _).alloc _) hW
  have T1 : Tch [gd] wr w1 := (T0.mono (by simp)).grown hg (by intro k hk _; simp [Value.ownBlock] at hk; simp [hk])
  obtain ⟨cur, hcur⟩ := ownsRow_block h.row (g := gd) rfl
  have hne : bx ∉ [gd] := by
    intro hm
    have hm := List.mem_singleton.1 hm
    exact cells_ne h.box hcur (by decide) hm
  have hb1 := T1.obj h.box hne
  obtain ⟨g, c, rfl, -, hgl⟩ := ownsRow_value ho (by omega)
  obtain ⟨cur2, hcur2⟩ := ownsRow_block ho (g := g) rfl
  have hs' := heap_setCell_same w1 bx 4 _ 35 (.slice (some ⟨g, 0, none⟩) (j + 1) c) hb1
  refine ⟨frozen_of_row w1 _ 4 _ 35 hb1, by rw [cell_of_row w1 _ _ _ 35 (0, 0) hb1]; rfl, g, c, rfl, ?_, by simpa using hs', ?_, ?_, h.bn⟩
  · refine (h.t.then T1 (fun i hi hm => ?_)).setCell (p := ⟨bx, 4, none⟩) (fun hlt => by have := h.bn; simp only at hlt; omega) _
    have := List.mem_singleton.1 hm
    have := h.gn
    omega
  · have T2 : Tch [bx] w1 (w1.setCell ⟨bx, 4, none⟩ (.slice (some ⟨g, 0, none⟩) (j + 1) c)) := (Tch.refl _ _).setCell (p := ⟨bx, 4, none⟩) (fun _ => by simp) _
    rw [hj, List.map_append]
    refine T2.own ho (fun k hk hm => ?_)
    have hk : g = k := by simpa [Value.ownBlock] using hk
    have hm := List.mem_singleton.1 hm
    exact cells_ne hcur2 hb1 (by decide) (by omega)
  · rcases hloc with e | e
    · have e : g = gd := by simpa [Value.ownBlock] using e
      rw [e]; exact h.gn
    · have e : g = Wp.heap.size := by simpa [Value.ownBlock] using e
      have h1 := h.t.size
      have h2 := T0.size
      omega

/-- What is told, out of spec's own cells. -/
theorem tell_sp (S : MSt × List Int) : tell S = ⟨S.1.til, S.1.last, S.1.pl.length, cntW S.2 S.1.til, S.2.map (fun i => decide (i ≤ S.1.til))⟩ := rfl

theorem plOf_len (all : List Cn) : (plOf all).length = all.length := by simp [plOf]

/-- What spec's run has left. -/
def SRan (w : World) (L : List Stp) (e : Ending) (w' : World) : Prop :=
  ∃ (may : Bool) (ov : Value), e = .returned (.tuple #[ov, .bool may]) ∧ Tch [] w w' ∧ (may = true → okRun L ∧ ∃ outs, OutAt w w' ov outs ∧ outs.map Prod.fst = (List.range L.length).map (fun k => tell (St L (k + 1))))

end Go.Proofs.Ytaheafmdkbobcaa
