/- The methods of uint64Heap: what each call does. -/
import Derived.Test.YtaheafmdkbobcaaMem
import Derived.Deep.QuietTactic
import Derived.BigQuiet
namespace Go.Proofs.Ytaheafmdkbobcaa
open Go.RowKit

abbrev U (xs : List Int) : List Value := xs.map (Value.int .u64)

theorem cellOf {w : World} {b g n cap : Nat} {xs : List Int} (hown : w.ownsRow b 28 1 (.slice (some ⟨g, 0, none⟩) n cap) n (U xs)) {i : Nat} (hi : i < n) :
    w.cell? ⟨g, i, none⟩ = some (.int .u64 (xs.getD i 0)) := by
  have hl : n = xs.length := by have := hown.1; simpa using this.symm
  rw [hown.cellAt i (by omega)]
  simp [List.getD, show i < xs.length by omega]

set_option maxHeartbeats 400000 in
theorem less_any (b g n cap : Nat) (xs : List Int) (i j : Nat) (w : World) (hown : w.ownsRow b 28 1 (.slice (some ⟨g, 0, none⟩) n cap) n (U xs)) (hi : i < n) (hj : j < n) :
    Calls Try.prog 60 #[.slice (some ⟨g, 0, none⟩) n cap, .int .i64 i, .int .i64 j] w fun e w' => e = .returned (.bool (decide (xs.getD i 0 < xs.getD j 0))) ∧ ∃ k, w' = w.drewN k := by
  have c1 := cellOf hown hi
  have c2 := cellOf hown hj
  have h1 : (i : Int) < n := by omega
  have h2 : (j : Int) < n := by omega
  have h3 : (0 : Int) ≤ i := by omega
  have h4 : (0 : Int) ≤ j := by omega
  generalize xs.getD i 0 = x at c1 ⊢
  generalize xs.getD j 0 = y at c2 ⊢
  clear hown
  go_enter Try.func60, Try.ntmps60
  go_wp2
  go_quiet (fail)
  go_wp2
  go_ret
  exact ⟨rfl, _, rfl⟩

set_option maxHeartbeats 400000 in
theorem swap_any (b g n cap : Nat) (xs : List Int) (i j : Nat) (w : World) (hown : w.ownsRow b 28 1 (.slice (some ⟨g, 0, none⟩) n cap) n (U xs)) (hi : i < n) (hj : j < n) :
    Calls Try.prog 61 #[.slice (some ⟨g, 0, none⟩) n cap, .int .i64 i, .int .i64 j] w fun e w' => e = .returned (.tuple #[]) ∧
      w'.ownsRow b 28 1 (.slice (some ⟨g, 0, none⟩) n cap) n (U ((xs.set i (xs.getD j 0)).set j (xs.getD i 0))) ∧ Tch [g] w w' := by
  have c1 := cellOf hown hi
  have c2 := cellOf hown hj
  have f1 := hown.frozenAt i
  have f2 := hown.frozenAt j
  have h1 : (i : Int) < n := by omega
  have h2 : (j : Int) < n := by omega
  have h3 : (0 : Int) ≤ i := by omega
  have h4 : (0 : Int) ≤ j := by omega
  obtain ⟨hs1, hs2⟩ := hown.stored i (.int .u64 (xs.getD j 0))
  obtain ⟨hs3, hs4⟩ := hs1.stored j (.int .u64 (xs.getD i 0))
  have K : ∀ w', w'.Alike ((w.setCell ⟨g, i, none⟩ (.int .u64 (xs.getD j 0))).setCell ⟨g, j, none⟩ (.int .u64 (xs.getD i 0))) → w'.ownsRow b 28 1 (.slice (some ⟨g, 0, none⟩) n cap) n (U ((xs.set i (xs.getD j 0)).set j (xs.getD i 0))) ∧ Tch [g] w w' := by
    intro w' hw
    have T : Tch [g] w w' := Tch.alike (((Tch.refl _ _).setCell (p := ⟨g, i, none⟩) (fun _ => by simp) _).setCell (p := ⟨g, j, none⟩) (fun _ => by simp) _) hw
    refine ⟨?_, T⟩
    have : ((U xs).set i (.int .u64 (xs.getD j 0))).set j (.int .u64 (xs.getD i 0)) = U ((xs.set i (xs.getD j 0)).set j (xs.getD i 0)) := by simp [U, List.map_set]
    rw [this] at hs3
    refine ⟨hs3.1, ?_⟩
    rcases hs3.2 with hn | ⟨g', cap', cur, h, hb, hgg, rest⟩
    · exact .inl hn
    · exact .inr ⟨g', cap', cur, h, hb, by rw [hw.1]; exact hgg, rest⟩
  have HK := Lib.hid K
  obtain ⟨vj, cj⟩ : ∃ vj, (w.setCell ⟨g, i, none⟩ (.int .u64 (xs.getD j 0))).cell? ⟨g, j, none⟩ = some vj := by
    rw [hs1.cellAt j (by omega)]
    exact ⟨_, List.getElem?_eq_getElem (by have := hs1.1; omega)⟩
  clear K hs1 hs2 hs3 hs4
  generalize xs.getD i 0 = x at *
  generalize xs.getD j 0 = y at *
  clear hown
  go_enter Try.func61, Try.ntmps61
  go_wp2
  go_region
  all_goals (go_end0; refine ⟨rfl, HK.out _ ?_⟩; exact ⟨rfl, rfl, rfl⟩)

end Go.Proofs.Ytaheafmdkbobcaa
