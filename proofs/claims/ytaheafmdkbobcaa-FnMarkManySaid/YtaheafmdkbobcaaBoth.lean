/- Both runs over the steps that came in: their answers' lengths told. -/
import Derived.Test.YtaheafmdkbobcaaSpecP
import Derived.Test.YtaheafmdkbobcaaSpecK
import Derived.Test.YtaheafmdkbobcaaSteps
import Derived.Test.YtaheafmdkbobcaaTwice
namespace Go.Proofs.Ytaheafmdkbobcaa
open Go.RowKit

def tells (L : List Stp) (k : Nat) : TR := tell (St L (k + 1))

/-- A run's answer, in memory. -/
structure Ans (w0 w : World) (L : List Stp) (a : Option Addr) (c : Nat) (outs : List (TR × Value)) : Prop where
  out : OutAt w0 w (.slice a L.length c) outs
  eq : outs.map Prod.fst = (List.range L.length).map (tells L)

theorem OutAt.ans {w0 w : World} {ov : Value} {outs : List (TR × Value)} {L : List Stp} (h : OutAt w0 w ov outs) (hm : outs.map Prod.fst = (List.range L.length).map (fun k => tell (St L (k + 1)))) : ∃ a c, ov = .slice a L.length c ∧ Ans w0 w L a c outs := by
  obtain ⟨a, c, rfl⟩ := ownsRow_slice h.row
  have hl : outs.length = L.length := by have := congrArg List.length hm; simpa using this
  rw [hl] at h ⊢
  exact ⟨a, c, rfl, h, hm⟩

theorem Ans.tch {w0 w w' : World} {L : List Stp} {a : Option Addr} {c : Nat} {outs : List (TR × Value)} (h : Ans w0 w L a c outs) (t : Tch [] w w') : Ans w0 w' L a c outs := ⟨h.out.tch t, h.eq⟩

/-- A cell of what is told. -/
theorem Ans.at {w0 w : World} {L : List Stp} {a : Option Addr} {c : Nat} {outs : List (TR × Value)} (h : Ans w0 w L a c outs) {k : Nat} (hk : k < L.length) :
    ∃ g, a = some ⟨g, 0, none⟩ ∧ w.cell? ⟨g, k * 5, none⟩ = some (.int .u64 (tells L k).til) ∧ w.cell? ⟨g, k * 5 + 1, none⟩ = some (.int .u64 (tells L k).last) ∧ w.cell? ⟨g, k * 5 + 2, none⟩ = some (.int .i64 (tells L k).pend) ∧ w.cell? ⟨g, k * 5 + 3, none⟩ = some (.int .i64 (tells L k).wait) ∧
      ∃ b c', w.cell? ⟨g, k * 5 + 4, none⟩ = some (.slice b (tells L k).done.length c') ∧ ∀ j f, (tells L k).done[j]? = some f → ∃ gd, b = some ⟨gd, 0, none⟩ ∧ w.cell? ⟨gd, j, none⟩ = some (.bool f) := by
  obtain ⟨g, c', e⟩ := h.out.shapeN h.eq (by omega)
  simp only [Value.slice.injEq, true_and] at e
  obtain ⟨rfl, rfl⟩ := e
  obtain ⟨y0, y1, y2, y3, a, c', y4, y5⟩ := h.out.at h.eq (k := k) hk
  exact ⟨g, rfl, y0, y1, y2, y3, a, c', y4, y5⟩

def Ran (w : World) (L : List Stp) (e : Ending) (w' : World) : Prop := ∃ a c outs, e = .returned (.slice a L.length c) ∧ Ans w w' L a c outs

theorem runMark_ans (L : List Stp) (sa : Option Addr) (cz : Nat) (w : World) (hok : okRun L) (hwt : wt L ≤ 5000) (hll : L.length ≤ 5000) (hst : StepsAt w sa L) :
    Calls Try.prog 15 #[.slice sa L.length cz] w (Ran w L) := by
  refine (runMark_any L sa cz w hok hwt hll hst).mono ?_
  rintro e w' ⟨ov, outs, rfl, ho, hm⟩
  obtain ⟨a, c, rfl, h⟩ := ho.ans hm
  exact ⟨a, c, outs, rfl, h⟩

def SRanA (w : World) (L : List Stp) (e : Ending) (w' : World) : Prop :=
  ∃ (may : Bool) (ov : Value), e = .returned (.tuple #[ov, .bool may]) ∧ Tch [] w w' ∧ (may = true → okRun L ∧ ∃ a c outs, ov = .slice a L.length c ∧ Ans w w' L a c outs)

theorem srun_ans (L : List Stp) (sa : Option Addr) (cz : Nat) (w : World) (hwt : wt L ≤ 5000) (hll : L.length ≤ 5000) (hst : StepsAt w sa L)
    (hu : ∀ i, i < L.length → (L.getD i default).idx ≤ MAX ∧ ∀ z ∈ (L.getD i default).many, z ≤ MAX) : Calls Try.prog 14 #[.slice sa L.length cz] w (SRanA w L) := by
  refine (srun_any L sa cz w hwt hll hst hu).mono ?_
  rintro e w' ⟨may, ov, rfl, t, h⟩
  refine ⟨may, ov, rfl, t, fun hm => ?_⟩
  obtain ⟨hok, outs, ho, he⟩ := h hm
  obtain ⟨a, c, rfl, h9⟩ := ho.ans he
  exact ⟨hok, a, c, outs, rfl, h9⟩

theorem box2 (w : World) (o o' : Obj) : ((w.alloc o).alloc o').heap[w.heap.size]? = some o ∧ ((w.alloc o).alloc o').heap[w.heap.size + 1]? = some o' := by
  refine ⟨?_, ?_⟩
  · rw [heap_get_alloc, if_neg (by simp), heap_get_alloc, if_pos rfl]
  · rw [heap_get_alloc, if_pos (by simp)]

end Go.Proofs.Ytaheafmdkbobcaa
