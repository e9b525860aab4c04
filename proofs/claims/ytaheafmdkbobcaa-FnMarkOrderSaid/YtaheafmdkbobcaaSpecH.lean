/- spec's step: its laws. -/
import Derived.Test.YtaheafmdkbobcaaSpecG
namespace Go.Proofs.Ytaheafmdkbobcaa
open Go.RowKit

theorem SpAt.tch {w w' : World} {tb : Nat} {fp : List Nat} {N : Nat} {q : MSt × List Int} (h : SpAt w tb fp N q) (t : Tch [] w w') : SpAt w' tb fp N q := by
  obtain ⟨va, vw, all, hd, hf⟩ := h
  exact ⟨va, vw, all, hd.tch t (by simp), hf⟩

theorem SpAt.mono {w : World} {tb : Nat} {fp : List Nat} {N M : Nat} {q : MSt × List Int} (h : SpAt w tb fp N q) (hm : N ≤ M) : SpAt w tb fp M q := by
  obtain ⟨va, vw, all, hd, hf⟩ := h
  exact ⟨va, vw, all, ⟨hd.td, hd.pl, fun p hp => by have := hd.cn p hp; omega, hd.nd, by have := hd.len; omega, by have := hd.wlen; omega⟩, hf⟩

theorem LeavesT.mono {w w' : World} {tb : Nat} {fp : List Nat} {N M : Nat} {q : MSt × List Int} (h : LeavesT w tb fp N q w') (hm : N ≤ M) : LeavesT w tb fp M q w' := by
  obtain ⟨fp', h1, h2, h3⟩ := h
  exact ⟨fp', h1.mono hm, h2, h3⟩

/-- After a step that has left alone what was there. -/
theorem LeavesT.after {w w1 w' : World} {tb : Nat} {fp : List Nat} {N : Nat} {q : MSt × List Int} (t : Tch [] w w1) (h : LeavesT w1 tb fp N q w') : LeavesT w tb fp N q w' := by
  obtain ⟨fp', h1, h2, h3⟩ := h
  exact ⟨fp', h1, fun k hk => (h2 k hk).imp id (fun h => Nat.le_trans t.size h), (t.mono (T := fp) (by simp)).then h3 (fun _ _ hm => hm)⟩

/-- After a step that has left it. -/
theorem LeavesT.trans {w w1 w' : World} {tb : Nat} {fp fp1 : List Nat} {N : Nat} {q : MSt × List Int} (t : Tch fp w w1) (hf : ∀ k ∈ fp1, k ∈ fp ∨ w.heap.size ≤ k) (h : LeavesT w1 tb fp1 N q w') : LeavesT w tb fp N q w' := by
  obtain ⟨fp', h1, h2, h3⟩ := h
  refine ⟨fp', h1, fun k hk => ?_, t.then h3 (fun i hi hm => ?_)⟩
  · rcases h2 k hk with h | h
    · exact hf k h
    · exact .inr (Nat.le_trans t.size h)
  · rcases hf i hm with h | h
    · exact h
    · omega

/-- Some begin one after the other, as spec has it: the last index is told each time. -/
def foldB (s : MSt) (l : List Int) : MSt := l.foldl (fun s x => next1 { s with last := x } x false) s

theorem next1_setlast (s : MSt) (x y : Int) (dn : Bool) : next1 { s with last := y } x dn = { next1 s x dn with last := y } := by unfold next1; split <;> rfl
theorem nextMany_setlast (l : List Int) (dn : Bool) : ∀ (s : MSt) (y : Int), nextMany { s with last := y } l dn = { nextMany s l dn with last := y } := by
  induction l with
  | nil => intro s y; rfl
  | cons x l ih => intro s y; show nextMany (next1 { s with last := y } x dn) l dn = _; rw [next1_setlast, ih]; rfl

theorem foldB_many : ∀ (l : List Int) (s : MSt), ∃ y, foldB s l = { nextMany s l false with last := y } := by
  intro l
  induction l with
  | nil => intro s; exact ⟨s.last, rfl⟩
  | cons x l ih =>
    intro s
    obtain ⟨y, hy⟩ := ih (next1 { s with last := x } x false)
    refine ⟨y, ?_⟩
    show foldB (next1 { s with last := x } x false) l = _
    rw [hy, next1_setlast, nextMany_setlast]; rfl

theorem foldB_succ (s : MSt) {zs : List Int} {j : Nat} (hj : j < zs.length) : foldB s (zs.take (j + 1)) = next1 { foldB s (zs.take j) with last := zs.getD j 0 } (zs.getD j 0) false := by
  unfold foldB
  rw [take_getD zs 0 hj, List.foldl_append]; rfl

theorem foldB_last (s : MSt) {zs : List Int} (h : 0 < zs.length) : foldB s zs = nextMany { s with last := zs.getD (zs.length - 1) 0 } zs false := by
  obtain ⟨n, hn⟩ : ∃ n, zs.length = n + 1 := ⟨zs.length - 1, by omega⟩
  have e1 : zs.take (n + 1) = zs := List.take_of_length_le (by omega)
  have h1 := foldB_succ s (zs := zs) (j := n) (by omega)
  obtain ⟨y, hy⟩ := foldB_many (zs.take n) s
  rw [e1] at h1
  have h2 := many_step (s := s) (zs := zs) (dn := false) (k := n) (by omega)
  rw [e1] at h2
  have hA : foldB s zs = { next1 (nextMany s (zs.take n) false) (zs.getD n 0) false with last := zs.getD n 0 } := by
    rw [h1, hy]; exact next1_setlast _ _ _ _
  have hn1 : zs.length - 1 = n := by omega
  rw [hA, ← h2, hn1]
  exact (nextMany_setlast zs false s (zs.getD n 0)).symm

theorem foldB_til (s : MSt) (l : List Int) : (foldB s l).til = (nextMany s l false).til := by
  obtain ⟨y, hy⟩ := foldB_many l s
  rw [hy]

theorem okMany_app {dn : Bool} {x : Int} : ∀ {l : List Int} {s : MSt}, okMany s l dn → ok1 (nextMany s l dn) x dn → okMany s (l ++ [x]) dn
  | [], _, _, h => ⟨h, trivial⟩
  | _ :: l, _, h, hx => ⟨h.1, okMany_app (l := l) h.2 hx⟩

def Stepped (w : World) (tb : Nat) (fp : List Nat) (N : Nat) (q : MSt × List Int) (p : Stp) (e : Ending) (w' : World) : Prop :=
  ∃ r : Bool, e = .returned (.bool r) ∧ (r = true → okStp q.1 q.2 p ∧ LeavesT w tb fp (N + (1 + p.many.length)) (stp q p) w') ∧ (r = false → Tch fp w w')

theorem cntW_zero {ws : List Int} {til : Int} (h : cntW ws til = 0) : ∀ i ∈ ws, i ≤ til := by
  intro i hi
  unfold cntW at h
  have := List.eq_nil_of_length_eq_zero h
  rw [List.filter_eq_nil_iff] at this
  have := this i hi
  simpa using this

theorem stp_0 (q : MSt × List Int) (ix : Int) (zs : List Int) : stp q ⟨0, ix, zs⟩ = (next1 { q.1 with last := ix } ix false, q.2) := by simp [stp, stpM_0, stpA]
theorem stp_1 (q : MSt × List Int) (ix : Int) (zs : List Int) : stp q ⟨1, ix, zs⟩ = (nextMany { q.1 with last := zs.getD (zs.length - 1) 0 } zs false, q.2) := by simp [stp, stpM_1, stpA]
theorem stp_2 (q : MSt × List Int) (ix : Int) (zs : List Int) : stp q ⟨2, ix, zs⟩ = (next1 q.1 ix true, q.2) := by simp [stp, stpM_2, stpA]
theorem stp_3 (q : MSt × List Int) (ix : Int) (zs : List Int) : stp q ⟨3, ix, zs⟩ = (nextMany q.1 zs true, q.2) := by simp [stp, stpM_3, stpA]
theorem stp_4 (q : MSt × List Int) (ix : Int) (zs : List Int) : stp q ⟨4, ix, zs⟩ = (q.1, q.2 ++ [ix]) := by simp [stp, stpM_4, stpA]
theorem stp_5 (q : MSt × List Int) (ix : Int) (zs : List Int) : stp q ⟨5, ix, zs⟩ = ({ q.1 with til := ix }, q.2) := by simp [stp, stpM_5, stpA]

end Go.Proofs.Ytaheafmdkbobcaa
