/- Steps that a law has laid itself, and what is read out of a run's answer. -/
import Derived.Test.YtaheafmdkbobcaaRunM
import Derived.ProofKit
import Derived.OpenShut
import Derived.ShutString
namespace Go.Proofs.Ytaheafmdkbobcaa
open Go.ChangeShapes Go.WideShapes Go.ChangeAt Go.RowKit

theorem flat_at {α β : Type} (f : α → List β) (sz : Nat) (hsz : ∀ x, (f x).length = sz) : ∀ (l : List α) (i j : Nat) (x : α), l[i]? = some x → j < sz → (l.flatMap f)[i * sz + j]? = (f x)[j]? := by
  intro l
  induction l with
  | nil => intro i j x h; simp at h
  | cons a l ih =>
    intro i j x h hj
    cases i with
    | zero =>
      have h : a = x := by simpa using h
      subst h
      rw [List.flatMap_cons, List.getElem?_append_left (by rw [hsz]; omega)]
      simp
    | succ i =>
      have h : l[i]? = some x := by simpa using h
      rw [List.flatMap_cons, List.getElem?_append_right (by rw [hsz, Nat.succ_mul]; omega), hsz]
      have e : (i + 1) * sz + j - sz = i * sz + j := by rw [Nat.succ_mul]; omega
      rw [e]; exact ih i j x h hj

/-- A step without a list, as a law lays it. -/
def stpCells (p : Stp) : List Value := [.int .i64 p.kind, .int .u64 p.idx, .slice none 0 0]

theorem steps_own {w : World} {g n c : Nat} {L : List Stp} (hown : w.ownsRow 0 31 3 (.slice (some ⟨g, 0, none⟩) n c) n (L.flatMap stpCells)) (hn : n = L.length) (hm : ∀ p ∈ L, p.many = []) : StepsAt w (some ⟨g, 0, none⟩) L := by
  intro i hi
  have hp : L[i]? = some (L.getD i default) := by simp [List.getD, List.getElem?_eq_getElem hi]
  generalize L.getD i default = p at *
  have hmp : p.many = [] := hm p (List.mem_of_getElem? hp)
  have ha : (⟨g, 0, none⟩ : Addr).add (i * 3) = ⟨g, i * 3, none⟩ := by unfold Addr.add; split <;> simp_all
  have hc : ∀ j, j < 3 → w.cell? ⟨g, i * 3 + j, none⟩ = (stpCells p)[j]? := fun j hj => by
    rw [hown.cellAt (i * 3 + j) (by omega)]
    exact flat_at stpCells 3 (fun _ => rfl) L i j p hp hj
  refine ⟨⟨g, 0, none⟩, rfl, ?_⟩
  rw [ha]
  refine ⟨own_lt hown rfl, hc 0 (by omega), hc 1 (by omega), none, 0, by rw [hmp]; exact hc 2 (by omega), fun _ => ⟨rfl, by rw [hmp]; rfl⟩, fun ad hd => by simp at hd⟩

section
variable {w0 w : World} {g n c : Nat} {outs : List (TR × Value)}

theorem OutAt.shape {ov : Value} (h : OutAt w0 w ov outs) (hn : 0 < outs.length) : ∃ g c, ov = .slice (some ⟨g, 0, none⟩) outs.length c := by
  obtain ⟨g, c, e, -⟩ := ownsRow_value h.row hn
  exact ⟨g, c, e⟩

theorem OutAt.cell (h : OutAt w0 w (.slice (some ⟨g, 0, none⟩) n c) outs) (hn : n = outs.length) {i : Nat} {p : TR × Value} (hp : outs[i]? = some p) {j : Nat} (hj : j < 5) : w.cell? ⟨g, i * 5 + j, none⟩ = (outCells p)[j]? := by
  have hi : i < outs.length := (List.getElem?_eq_some_iff.1 hp).1
  have hr := h.row
  rw [← hn] at hr
  rw [hr.cellAt (i * 5 + j) (by omega)]
  exact flat_at outCells 5 (fun _ => rfl) outs i j p hp hj

theorem OutAt.done {ov : Value} (h : OutAt w0 w ov outs) {p : TR × Value} (hp : p ∈ outs) : ∃ a c, p.2 = .slice a p.1.done.length c ∧ ∀ j f, p.1.done[j]? = some f → ∃ gd, a = some ⟨gd, 0, none⟩ ∧ w.cell? ⟨gd, j, none⟩ = some (.bool f) := by
  obtain ⟨h1, h2⟩ := h.dn p hp
  obtain ⟨a, c, e⟩ := ownsRow_slice h1
  refine ⟨a, c, e, fun j f hf => ?_⟩
  have hj : j < p.1.done.length := (List.getElem?_eq_some_iff.1 hf).1
  obtain ⟨gd, c', e', -, -⟩ := ownsRow_value h1 (by omega)
  rw [e] at e' h1
  simp only [Value.slice.injEq, true_and] at e'
  obtain ⟨rfl, rfl⟩ := e'
  refine ⟨gd, rfl, ?_⟩
  rw [h1.cellAt j (by omega), List.getElem?_map, hf]; rfl
end

theorem wf_u64 {a : Int} (h : (Lit.int .u64 a).wf = true) : 0 ≤ a ∧ a ≤ 18446744073709551615 := by
  simp only [Lit.wf, Bool.and_eq_true, decide_eq_true_eq] at h
  exact ⟨h.1, h.2⟩

/-- The row's answer where the call has left alone what was there. -/
theorem post_of_tch {H : Type} {enc : TypeId × Value → H} {P : Program} {f : Func} {s : ChangeSpec} {apart fresh handsOn again : Bool} {W W' : World} {args : Array Value} {v : Value} {ds gs : List (DataW H)} {before pa pv : List MemPlace}
    (hW : DataW.Whole enc P f.params.toList s.vars apart W args.toList ds gs before)
    (hres : ∀ (b : Nat) (sp : Nat → Bool) (hd : Bool), DataW.TrodAll enc P W' b sp hd f.resultTypes.toList (v.resultList f.resultTypes.size) (s.fn H (ds ++ gs)).results [])
    (hargs : ∀ sp : Nat → Bool, (∀ p ∈ before, sp p.block = true) → DataW.TrodAll enc P W' 0 sp true f.params.toList args.toList (s.fn H (ds ++ gs)).args pa)
    (hvars : ∀ sp : Nat → Bool, (∀ p ∈ before, sp p.block = true) → DataW.TrodVars enc P W' sp s.vars (s.fn H (ds ++ gs)).vars pv)
    (hps : before = pa ++ pv) (ht : Tch [] W W')
    (hok : ∀ (j : Nat) (t : TypeId) (r : Value), f.resultTypes[j]? = some t → (v.resultList f.resultTypes.size)[j]? = some r → Value.okWide P W' .any 0 t r) :
    s.post enc P f apart fresh handsOn again W args v W' := by
  have hold : ∀ p ∈ before, (fun b => decide (b < W.heap.size)) p.block = true := fun p hp => by simpa using hW.lt p hp
  have hlt := hW.lt
  refine ⟨ds, gs, before, [], pa, pv, hW, hres _ _ _, hargs _ hold, hvars _ hold, World.keptBut_mono (fun p hp => ⟨hp, ?_⟩) (ht.frame (by simp) (· ∈ before)), fun _ => ?_⟩
  · rw [hps, List.mem_append] at hp
    exact Or.inr hp
  · obtain ⟨_, _, _, _, _, hz, hn⟩ := hW
    refine ⟨hok, _, _, ([] ++ pa) ++ pv, ⟨[] ++ pa, pv, ChangeShapes.trodAll_append (hargs _ (fun _ _ => rfl)) (hres _ _ _), hvars _ (fun _ _ => rfl), rfl, ?_, ?_⟩, ?_⟩
    · intro b off hp
      have hp' : MemPlace.cell b off ∈ before := by rw [hps]; simpa using hp
      rw [ht.frozen (hlt _ hp') (by simp)]
      exact hz b off hp'
    · intro ha
      have := hn ha
      rw [hps] at this
      simpa using this
    · intro p hp _
      rw [hps]
      simpa using hp

end Go.Proofs.Ytaheafmdkbobcaa
