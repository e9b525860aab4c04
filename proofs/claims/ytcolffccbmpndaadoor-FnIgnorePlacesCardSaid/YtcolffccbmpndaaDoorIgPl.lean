/- FnIgnorePlaces, walked. -/
import Derived.Test.YtcolffccbmpndaaDoorIgJ
namespace Go.Proofs.YtcolffccbmpndaaDoor
open Go.RowKit Go.Deep
set_option maxRecDepth 100000

theorem textOk_parse {f : Nat → Bool} {n : Nat} {o : List UInt8} (h : TextOk f n o) : (∀ p ∈ splitB 44 (trimS o), smallI p) ∧ ∃ m g, parseP o = some (m, g) ∧ (∀ j, g j = (decide (j < n) && f j)) ∧ m ≤ n := by
  rcases h.2 with ⟨rfl, h2⟩ | ⟨-, L, it, m, g, h1, h2, rfl, h4, h5, h6⟩
  · refine ⟨small_nil, 0, fun _ => false, rfl, fun j => ?_, Nat.zero_le _⟩
    by_cases hj : j < n
    · simp [h2 j hj]
    · simp [hj]
  · have := parse_pre L it h1 h2
    exact ⟨this.2, m, g, by rw [this.1, h4], h5, h6⟩

set_option maxHeartbeats 2000000 in
theorem ignP_any (v : Value) (n : Nat) (f : Nat → Bool) (rg bk : Bool) (w : World) (ht : Tabs w) (h : BlAt w v n f) (_ : n ≤ maxLen) :
    Calls Tryd.prog 5 #[v, .bool rg, .bool bk] w fun e w' => e = .returned (.bool true) ∧ Tch [] w w' := by
  by_cases h1 : n ≤ 5000
  · have HH := Lib.hid (fun w' (t : Tch [] w w') => holesText_any v n f rg bk w' (h.tch t) h1)
    have HI := Lib.hid (fun (l : List UInt8) (w' : World) (t : Tch [] w w') (h1 : l.length ≤ 1000000) (h2 : ∀ p ∈ splitB 44 (trimS l), smallI p) => ignore_any l w' h1 (ht.tch t) h2)
    have HB := Lib.hid h
    have HN := Lib.hid h1
    have hni : (n : Int) ≤ 5000 := by omega
    have hn1 : decide ((2147483647 : Int) < (n : Int)) = false := decide_eq_false (by omega)
    have hn2 : decide ((5000 : Int) < (n : Int)) = false := decide_eq_false (by omega)
    obtain ⟨a, c, rfl, -⟩ := h
    clear ht h1
    go_enter Tryd.func5, Tryd.ntmps5
    go_wp2_with fail
    clear hn1 hn2
    refine (HH.out _ (Tch.refl _ _)).mono ?_
    rintro e w1 ⟨o, rfl, hw, ho⟩
    rw [hw]
    obtain ⟨g1, m, g, g2, g3, g4⟩ := textOk_parse ho
    have HIG := Lib.hid (HI.out o w (Tch.refl _ _) (by have := ho.1; have := HN.out; omega) g1)
    rw [g2] at HIG
    have HG3 := Lib.hid g3
    have HM := Lib.hid g4
    clear hw ho g1 g2 g3 g4 HI HH
    go_wp2_with fail
    refine HIG.out.mono ?_
    rintro e w2 ⟨a2, c2, n2, f2, rfl, k1, k2, k3, k4⟩
    have hq := k4 rfl
    simp only [Option.some.injEq, Prod.mk.injEq] at hq
    obtain ⟨rfl, rfl⟩ := hq
    have HT2 := Lib.hid k1.t
    have HS := Lib.hid (same_any _ _ m n g f _ k1.blAt (HB.out.tch k1.t) (by have := HM.out; have := HN.out; omega) (by have := HN.out; omega) (fun i => by
      by_cases hi : i < m
      · have := HM.out
        rw [HG3.out i]
        simp [hi]
      · have h0 := k3 i (by omega)
        rw [HG3.out i] at h0
        rw [h0]
        simp [hi]))
    clear k1 k2 k3 k4
    simp only [Option.isSome_some]
    go_wp2_with fail
    refine HS.out.mono ?_
    rintro e w3 ⟨rfl, t⟩
    have HT3 := Lib.hid (HT2.out.trans t)
    clear t
    go_wp2_with fail
    go_ret
    exact ⟨rfl, HT3.out⟩
  · have HT := Lib.hid (Tch.refl [] w)
    have hni : (5000 : Int) < (n : Int) := by omega
    obtain ⟨a, c, rfl, -⟩ := h
    clear ht h1
    by_cases h2 : 2147483647 < n
    · have hn2 : (2147483647 : Int) < (n : Int) := by omega
      go_enter Tryd.func5, Tryd.ntmps5
      go_wp2_with fail
      go_ret
      exact ⟨rfl, HT.out⟩
    · have hn2 : (n : Int) ≤ 2147483647 := by omega
      have hn1 : decide ((2147483647 : Int) < (n : Int)) = false := decide_eq_false (by omega)
      clear h2
      go_enter Tryd.func5, Tryd.ntmps5
      go_wp2_with fail
      go_ret
      exact ⟨rfl, HT.out⟩

end Go.Proofs.YtcolffccbmpndaaDoor
