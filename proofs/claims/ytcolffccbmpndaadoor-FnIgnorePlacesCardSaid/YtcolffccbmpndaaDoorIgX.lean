/- FnIgnoreBytes. -/
import Derived.Test.YtcolffccbmpndaaDoorIgW
namespace Go.Proofs.YtcolffccbmpndaaDoor
open Go.RowKit Go.Deep
set_option maxRecDepth 100000

theorem trim_nil : trimS [] = [] := List.length_eq_zero_iff.1 (Nat.le_zero.1 (trimS_le []))
theorem small_nil : ∀ p ∈ splitB 44 (trimS []), smallI p := by
  intro p hp
  rw [trim_nil] at hp
  simp only [splitB, List.mem_singleton] at hp
  subst hp
  intro s e h
  unfold itemP at h
  rw [trim_nil] at h
  simp only [splitB, trim_nil] at h
  simp [show atoiO [] = none from by rfl] at h

/-- The places that are read are those that the reference reads. -/
theorem ignB_any (s : ByteArray) (w : World) (ht : Tabs w) :
    Calls Tryd.prog 3 #[.string s] w fun e w' => e = .returned (.bool true) ∧ Tch [] w w' := by
  rw [bs_of s]
  generalize s.data.toList = l
  have hs := bs_size l
  by_cases hl : 2147483647 < l.length
  · have hl2 : (2147483647 : Int) < (l.length : Int) := by omega
    go_enter Tryd.func3, Tryd.ntmps3
    go_wp2_with fail
    go_ret
    exact ⟨rfl, Tch.refl _ _⟩
  have HH := Lib.hid (fun w' => holes_any l w' (by omega))
  have HI := Lib.hid (fun (w' : World) (t : Tch [] w w') (h1 : l.length ≤ 1000000) (h2 : ∀ p ∈ splitB 44 (trimS l), smallI p) => ignore_any l w' h1 (ht.tch t) h2)
  have hl2 : (l.length : Int) ≤ 2147483647 := by omega
  have hl3 : decide ((2147483647 : Int) < (l.length : Int)) = false := decide_eq_false (by omega)
  clear hl ht
  go_enter Tryd.func3, Tryd.ntmps3
  go_wp2_with fail
  clear hl3
  refine (HH.out _).mono ?_
  rintro e w1 ⟨a, c, n, f, fine, rfl, h1, h2, h3, h4⟩
  have HO := Lib.hid h1
  have HT := Lib.hid h1.t
  have hn6 : n ≤ 10000 := h2
  have H4 := Lib.hid h4
  clear h1 h2 h3 h4
  cases fine with
  | false =>
    clear H4
    go_wp2_with fail
    go_ret
    exact ⟨rfl, HT.out⟩
  | true =>
    have HP : Hid (l.length ≤ 1000000 ∧ (∀ p ∈ splitB 44 (trimS l), smallI p) ∧ ∃ f', parseP l = some (n, f') ∧ ∀ i, i < n → f' i = f i) := Lib.hid (by
      rcases H4.out rfl with ⟨rfl, rfl⟩ | ⟨h5, L, it, g1, g2, g3, g4⟩
      · exact ⟨by simp, small_nil, _, rfl, fun i hi => absurd hi (Nat.not_lt_zero i)⟩
      · have := parse_pre L it g1 g2
        rw [← g3, ← g4] at this
        exact ⟨by omega, this.2, f, this.1, fun _ _ => rfl⟩)
    obtain ⟨p1, p2, f', p3, p4⟩ := HP.out
    have HIG := Lib.hid (fun w' t => HI.out w' t p1 p2)
    rw [p3] at HIG
    have HP4 := Lib.hid p4
    clear H4 HP HI p1 p2 p3 p4
    go_wp2_with fail
    refine (HIG.out _ HT.out).mono ?_
    rintro e w2 ⟨a2, c2, n2, f2, rfl, h1, h2, h3, h4⟩
    have hq := h4 rfl
    simp only [Option.some.injEq, Prod.mk.injEq] at hq
    obtain ⟨rfl, rfl⟩ := hq
    have HT2 := Lib.hid (HT.out.trans h1.t)
    have HS := Lib.hid (same_any _ _ n n f' f _ h1.blAt ((HO.out.tch h1.t).blAt) (by omega) (by omega) (fun i => by
      by_cases hi : i < n
      · rw [HP4.out i hi]
      · simp [hi]))
    clear h1 h2 h3 h4
    simp only [Option.isSome_some]
    go_wp2_with fail
    refine HS.out.mono ?_
    rintro e w3 ⟨rfl, t⟩
    have HT3 := Lib.hid (HT2.out.trans t)
    clear t
    go_wp2_with fail
    go_ret
    exact ⟨rfl, HT3.out⟩

end Go.Proofs.YtcolffccbmpndaaDoor
