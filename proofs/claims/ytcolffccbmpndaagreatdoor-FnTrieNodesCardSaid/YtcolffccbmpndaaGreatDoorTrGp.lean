/- What is put in and deleted again; orders; longer keys: plain. -/
import Derived.Test.YtcolffccbmpndaaGreatDoorTrAd
namespace Go.Proofs.YtcolffccbmpndaaGreatDoor
set_option maxRecDepth 100000

def fOf (s : StepD) : Nat → Bool := (holesD s).getD (fun _ => false)
def entryE (s : StepD) : Path × Int := (pathOf (fOf s) s.bytes, s.id)
def isAddD (s : StepD) : Prop := (s.kind = 0 ∨ s.kind = 1) ∧ holesD s ≠ none
def delOf (s : StepD) : StepD := { s with kind := s.kind + 2 }
theorem holesD_some {s : StepD} (h : holesD s ≠ none) : holesD s = some (fOf s) := by
  unfold fOf
  cases e : holesD s with
  | none => exact absurd e h
  | some f => rfl
theorem stepT_add (st : Stand) {s : StepD} (h : isAddD s) : stepT st s = (st ++ [entryE s], ⟨true, [], 0, 0⟩) := by
  unfold stepT
  rw [if_pos h.1, holesD_some h.2]
  rfl
theorem holesD_del {s : StepD} (h : isAddD s) : holesD (delOf s) = holesD s := by
  unfold holesD delOf
  rcases h.1 with e | e <;> simp [e]
theorem stepT_del (st : Stand) {s : StepD} (h : isAddD s) : stepT st (delOf s) = (strikeS st (entryE s).1 (entryE s).2, ⟨true, [], 0, 0⟩) := by
  have e : holesD (delOf s) = some (fOf s) := by rw [holesD_del h]; exact holesD_some h.2
  unfold stepT
  rw [e]
  have hk : (delOf s).kind = s.kind + 2 := rfl
  rw [hk, if_neg (by rcases h.1 with e | e <;> omega), if_pos (by rcases h.1 with e | e <;> omega)]
  rfl
theorem fold_add : ∀ (A : List StepD) (st : Stand), (∀ s ∈ A, isAddD s) → A.foldl (fun st s => (stepT st s).1) st = st ++ A.map entryE := by
  intro A
  induction A with
  | nil => intro st _; simp
  | cons s A ih =>
    intro st h
    rw [List.foldl_cons, stepT_add st (h s (by simp)), ih _ (fun x hx => h x (by simp [hx]))]
    simp
theorem fold_del : ∀ (A : List StepD) (st : Stand), (∀ s ∈ A, isAddD s) → ∀ x ∈ (A.map delOf).foldl (fun st s => (stepT st s).1) st, x ∈ st ∧ ∀ s ∈ A, x ≠ entryE s := by
  intro A
  induction A with
  | nil => intro st _ x hx; exact ⟨hx, by simp⟩
  | cons s A ih =>
    intro st h x hx
    rw [List.map_cons, List.foldl_cons, stepT_del st (h s (by simp))] at hx
    obtain ⟨h1, h2⟩ := ih _ (fun y hy => h y (by simp [hy])) x hx
    have h3 := List.mem_filter.1 h1
    refine ⟨h3.1, fun y hy => ?_⟩
    rcases List.mem_cons.1 hy with rfl | hy
    · intro e
      rw [e] at h3
      simp at h3
    · exact h2 y hy
/-- All is gone. -/
theorem gone_run (A : List StepD) (key : List Int) (h : ∀ s ∈ A, isAddD s) : ∃ T, T.length = 2 * A.length ∧ runT [] (A ++ A.map delOf ++ [⟨4, key, [], 0⟩, ⟨5, [], [], 0⟩]) = T ++ [⟨true, [], 0, 0⟩, ⟨true, [], 0, 1⟩] := by
  have hst : (A ++ A.map delOf).foldl (fun st s => (stepT st s).1) [] = [] := by
    rw [List.foldl_append, fold_add A [] h, List.nil_append, List.eq_nil_iff_forall_not_mem]
    intro x hx
    obtain ⟨h1, h2⟩ := fold_del A _ h x hx
    obtain ⟨s, hs, rfl⟩ := List.mem_map.1 h1
    exact h2 s hs rfl
  refine ⟨runT [] (A ++ A.map delOf), by rw [runT_len]; simp; omega, ?_⟩
  rw [runT_append, hst]
  have e1 : stepT [] ⟨4, key, [], 0⟩ = ([], ⟨true, [], 0, 0⟩) := by simp [stepT, idsFor]
  have e2 : stepT [] ⟨5, [], [], 0⟩ = ([], ⟨true, [], 0, 1⟩) := by simp [stepT, nodesS]
  simp only [runT, e1, e2]

/-- The order of what is put in does not matter. -/
theorem idsFor_perm {st st' : Stand} (h : ∀ x, x ∈ st ↔ x ∈ st') (key : List Int) : idsFor st key = idsFor st' key := by
  have u1 := idsFor_up st key
  have u2 := idsFor_up st' key
  have hp : (idsFor st key).Perm (idsFor st' key) := (List.perm_ext_iff_of_nodup (u1.imp (fun h e => by omega)) (u2.imp (fun h e => by omega))).2 (fun x => by
    rw [idsFor_mem, idsFor_mem]
    constructor
    · rintro ⟨y, hy, h2⟩; exact ⟨y, (h y).1 hy, h2⟩
    · rintro ⟨y, hy, h2⟩; exact ⟨y, (h y).2 hy, h2⟩)
  exact List.Perm.eq_of_pairwise (le := fun x y => x ≤ y) (fun a b _ _ h1 h2 => by omega) (u1.imp (fun h => by omega)) (u2.imp (fun h => by omega)) hp
theorem nodes_perm {st st' : Stand} (h : ∀ x, x ∈ st ↔ x ∈ st') : (nodesS st).length = (nodesS st').length := by
  refine List.Perm.length_eq ((List.perm_ext_iff_of_nodup (nodesS_nodup st) (nodesS_nodup st')).2 (fun q => ?_))
  rw [nodesS_mem, nodesS_mem]
  unfold isNode
  refine or_congr Iff.rfl ⟨?_, ?_⟩
  · rintro ⟨x, hx, hq⟩; exact ⟨x, (h x).1 hx, hq⟩
  · rintro ⟨x, hx, hq⟩; exact ⟨x, (h x).2 hx, hq⟩
theorem order_run (A : List StepD) (key : List Int) (h : ∀ s ∈ A, isAddD s) : ∃ T T' ids m nd, T.length = A.length ∧ T'.length = A.length ∧ 1 ≤ nd ∧ runT [] (A ++ [⟨4, key, [], 0⟩, ⟨5, [], [], 0⟩]) = T ++ [⟨true, ids, m, 0⟩, ⟨true, [], 0, nd⟩] ∧ runT [] (A.reverse ++ [⟨4, key, [], 0⟩, ⟨5, [], [], 0⟩]) = T' ++ [⟨true, ids, m, 0⟩, ⟨true, [], 0, nd⟩] := by
  have e1 : ∀ st, stepT st ⟨4, key, [], 0⟩ = (st, ⟨true, idsFor st key, (idsFor st key).length, 0⟩) := fun st => by simp [stepT]
  have e2 : ∀ st, stepT st ⟨5, [], [], 0⟩ = (st, ⟨true, [], 0, (nodesS st).length⟩) := fun st => by simp [stepT]
  have hm : ∀ x, x ∈ A.map entryE ↔ x ∈ A.reverse.map entryE := fun x => by simp
  have hpos : 1 ≤ (nodesS (A.map entryE)).length := List.length_pos_of_mem ((nodesS_mem _ []).2 (.inl rfl))
  refine ⟨runT [] A, runT [] A.reverse, idsFor (A.map entryE) key, (idsFor (A.map entryE) key).length, (nodesS (A.map entryE)).length, runT_len _ _, by rw [runT_len]; simp, by omega, ?_, ?_⟩
  · rw [runT_append, fold_add A [] h, List.nil_append]
    simp only [runT, e1, e2]
  · rw [runT_append, fold_add A.reverse [] (fun s hs => h s (by simpa using hs)), List.nil_append]
    simp only [runT, e1, e2, ← idsFor_perm hm key, ← nodes_perm hm]

/-- What is told for a key is told for each longer one. -/
theorem fits_longer : ∀ (p : Path) (key more : List Int), fitsP p key = true → fitsP p (key ++ more) = true
  | [], _, _, _ => by simp [fitsP]
  | _ :: _, [], _, h => by simp [fitsP] at h
  | none :: p, c :: key, more, h => by
    simp only [fitsP, List.cons_append] at h ⊢
    exact fits_longer p key more h
  | some b :: p, c :: key, more, h => by
    simp only [fitsP, List.cons_append, Bool.and_eq_true] at h ⊢
    exact ⟨h.1, fits_longer p key more h.2⟩
theorem longer_run (L : List StepD) (key more : List Int) : ∃ T i1 i2 i3 m1 m2 m3, T.length = L.length ∧ (∀ x ∈ i1, x ∈ i2) ∧ (1 : Int) ∈ i3 ∧ runT [] (L ++ [⟨4, key, [], 0⟩, ⟨4, key ++ more, [], 0⟩, ⟨0, [], [], 1⟩, ⟨4, key, [], 0⟩]) = T ++ [⟨true, i1, m1, 0⟩, ⟨true, i2, m2, 0⟩, ⟨true, [], 0, 0⟩, ⟨true, i3, m3, 0⟩] := by
  have e1 : ∀ st k, stepT st ⟨4, k, [], 0⟩ = (st, ⟨true, idsFor st k, (idsFor st k).length, 0⟩) := fun st k => by simp [stepT]
  have e2 : ∀ st, stepT st ⟨0, [], [], 1⟩ = (st ++ [([], 1)], ⟨true, [], 0, 0⟩) := fun st => by simp [stepT, holesD, pathOf]
  refine ⟨runT [] L, idsFor (standT L) key, idsFor (standT L) (key ++ more), idsFor (standT L ++ [([], 1)]) key, (idsFor (standT L) key).length, (idsFor (standT L) (key ++ more)).length, (idsFor (standT L ++ [([], 1)]) key).length, runT_len _ _, fun x hx => ?_, ?_, ?_⟩
  rotate_left 2
  · rw [runT_append]
    show runT [] L ++ runT (standT L) _ = _
    simp only [runT, e1, e2]
  · rw [idsFor_mem] at hx ⊢
    obtain ⟨y, hy, e, hf⟩ := hx
    exact ⟨y, hy, e, fits_longer _ _ _ hf⟩
  · rw [idsFor_mem]
    exact ⟨([], 1), by simp, rfl, by simp [fitsP]⟩

end Go.Proofs.YtcolffccbmpndaaGreatDoor
