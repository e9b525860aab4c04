/- Striking a key while the map is ranged over; the lists' own laws. -/
import Derived.Test.YtdofgamahjmohaaRMap
namespace Go.Proofs.Ytdofgamahjmohaa
open Go.RowKit Go.MapKept
open Go.ChangeMaps (setBlock heap_setBlock_same heap_setBlock_other map_eraseIdx)

theorem erase_filter {α : Type} {f : α → Int} : ∀ {l : List α} {j : Nat} {a : α}, (l.map f).Nodup → l[j]? = some a → l.eraseIdx j = l.filter (fun y => f y != f a)
  | [], j, a, _, h => by simp at h
  | y :: l, 0, a, hn, h => by
    simp only [List.getElem?_cons_zero, Option.some.injEq] at h
    subst h
    simp only [List.map_cons, List.nodup_cons] at hn
    rw [List.eraseIdx_cons_zero, List.filter_cons_of_neg (by simp)]
    symm
    rw [List.filter_eq_self]
    intro z hz
    have : f z ≠ f y := fun e => hn.1 (by rw [← e]; exact List.mem_map.2 ⟨z, hz, rfl⟩)
    simpa using this
  | y :: l, j + 1, a, hn, h => by
    simp only [List.getElem?_cons_succ] at h
    simp only [List.map_cons, List.nodup_cons] at hn
    have : f y ≠ f a := fun e => hn.1 (by rw [e]; exact List.mem_map.2 ⟨a, List.mem_of_getElem? h, rfl⟩)
    rw [List.eraseIdx_cons_succ, List.filter_cons_of_pos (by simpa using this), erase_filter hn.2 h]

section
variable {P : Program} {q : IntKind} {w : World} {r b : Nat} {l : List (Int × Value)} {left : List Int} {t k e : TypeId}

theorem RIter.delete (h : RIter q w r b l left) (hrb : r ≠ b) (hk : P.underlying k = some (.int q)) (ht : P.underlying t = some (.map k e)) (x : Int) (hx : x ∉ left) (ty : TypeId) :
    ∃ w', (Builtin.delete_ #[t, k] ty #[.map (some b), .int q x]).run P w = .ok (.tuple #[]) w' ∧ RIter q w' r b (delL l x) left ∧ Tch [b] w w' ∧ w'.heap.size = w.heap.size := by
  have hnd := h.map.nodup
  obtain ⟨es0, clk0, since, seen, c0, g1, g2, g3, g4, g5, g6, g7, g8⟩ := h
  obtain ⟨es, clk, h1, h2, h3, h4⟩ := RMap.find (P := P) (w := w) (b := b) (l := l) ⟨es0, clk0, g1, g2, g3⟩ hk x
  rw [g1] at h1
  simp only [Option.some.injEq, Obj.map.injEq] at h1
  obtain ⟨rfl, rfl⟩ := h1
  have hkn : (es0.toList.map (fun y => intOf y.key)).Nodup := by
    have : es0.toList.map (fun y => intOf y.key) = l.map Prod.fst := by
      have := congrArg (List.map (fun p : Value × Value => intOf p.1)) g3
      simpa [List.map_map, Function.comp_def, intOf] using this
    rw [this]; exact hnd
  rcases h4 with ⟨ha, hf, hne⟩ | ⟨j, v0, en, ha, hf, hen, hkey, hval, hlj⟩
  · have T := setBlock_tch g1 (.map es0 clk0)
    refine ⟨setBlock w b (.map es0 clk0), ?_, ⟨es0, clk0, since, seen, c0, heap_setBlock_same g1 _, g2, ?_, T.obj g4 (by simpa using hrb), g5, g6, g7, g8⟩, T, by simp [setBlock]⟩
    · simp [Builtin.delete_, run_underlying ht, MapKept.run_getObj_map g1, run_checkKey hk (k := .int q x) rfl, hf, MapKept.run_setObj_map _ g1, Result.andThen, setBlock]
    · have : delL l x = l := by
        unfold delL
        rw [List.filter_eq_self]
        intro p hp
        simpa using at?_none.1 ha p hp
      rw [this]; exact g3
  · have T := setBlock_tch g1 (.map (es0.eraseIdxIfInBounds j) clk0)
    have hjl : j < es0.size := (Array.getElem?_eq_some_iff.1 hen).1
    have e1 : (es0.eraseIdxIfInBounds j).toList = es0.toList.filter (fun y => intOf y.key != x) := by
      unfold Array.eraseIdxIfInBounds
      rw [dif_pos hjl]
      simp only [Array.toList_eraseIdx]
      rw [erase_filter (f := fun y : MapEntry => intOf y.key) (a := en) hkn (by simpa using hen)]
      simp [hkey, intOf]
    refine ⟨setBlock w b (.map (es0.eraseIdxIfInBounds j) clk0), ?_, ⟨es0.eraseIdxIfInBounds j, clk0, since, seen, c0, heap_setBlock_same g1 _, stamped_erase g2 _, ?_, T.obj g4 (by simpa using hrb), ?_, g6, g7, ?_⟩, T, by simp [setBlock]⟩
    · simp [Builtin.delete_, run_underlying ht, MapKept.run_getObj_map g1, run_checkKey hk (k := .int q x) rfl, hf, MapKept.run_setObj_map _ g1, Result.andThen, setBlock]
    · rw [e1]
      have := congrArg (List.filter (fun p : Value × Value => intOf p.1 != x)) g3
      rw [List.filter_map, List.filter_map] at this
      exact this
    · intro y hy
      rw [e1] at hy
      exact g5 y (List.mem_filter.1 hy).1
    · have e2 : (leftOf (es0.eraseIdxIfInBounds j) seen).toList = (leftOf es0 seen).toList.filter (fun y => intOf y.key != x) := by
        simp only [leftOf, Array.toList_filter, e1, List.filter_filter]
        apply List.filter_congr
        intro y _
        rw [Bool.and_comm]
      have e3 : ((leftOf es0 seen).toList.filter (fun y => intOf y.key != x)).map (·.key) = ((leftOf es0 seen).toList.map (·.key)).filter (fun v => intOf v != x) := by
        rw [List.filter_map]; rfl
      rw [e2, e3, g8, List.filter_map]
      congr 1
      rw [List.filter_eq_self]
      intro z hz
      have : z ≠ x := fun e => hx (e ▸ hz)
      simpa [intOf] using this
end

/-! The lists. -/
theorem at?_map {α : Type} (l : List α) (f : α → Int) (g : α → Value) (x : Int) : at? (l.map fun c => (f c, g c)) x = (l.find? (fun c => f c == x)).map g := by
  simp only [at?, List.find?_map, Option.map_map]
  rfl
theorem delL_map {α : Type} (l : List α) (f : α → Int) (g : α → Value) (x : Int) : delL (l.map fun c => (f c, g c)) x = (l.filter (fun c => f c != x)).map fun c => (f c, g c) := by
  simp only [delL, List.filter_map]
  rfl
theorem delL_filter (l : List (Int × Value)) (p : Int → Bool) (x : Int) : delL (l.filter fun c => p c.1) x = l.filter (fun c => p c.1 && c.1 != x) := by
  simp only [delL, List.filter_filter]
  apply List.filter_congr
  intro y _
  rw [Bool.and_comm]

end Go.Proofs.Ytdofgamahjmohaa
