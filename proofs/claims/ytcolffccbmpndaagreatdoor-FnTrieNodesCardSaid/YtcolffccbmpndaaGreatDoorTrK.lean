/- NewTrie, Add, AddMatch, Delete, DeleteMatch. -/
import Derived.Test.YtcolffccbmpndaaGreatDoorTrJ
namespace Go.Proofs.YtcolffccbmpndaaGreatDoor
open Go.RowKit Go.Deep
set_option maxRecDepth 100000

theorem trim_none : trimS [] = [] := List.length_eq_zero_iff.1 (Nat.le_zero.1 (trimS_le []))
theorem small_none : ∀ p ∈ splitB 44 (trimS []), smallI p := by
  intro p hp
  rw [trim_none] at hp
  simp only [splitB, List.mem_singleton] at hp
  subst hp
  intro s e h
  unfold itemP at h
  rw [trim_none] at h
  simp only [splitB, trim_none] at h
  simp [show atoiO [] = none from by rfl] at h

theorem NewTrie_any (w : World) (base : Nat) (hb : base ≤ w.heap.size) : Calls Tryz.prog 25 #[] w fun e w' => ∃ tb root N, e = .returned (ptr tb) ∧ TrAt w' base tb root N ∧ cont N = Cst [] ∧ Tch [] w w' ∧ w.heap.size ≤ tb := by
  have HB := Lib.hid hb
  clear hb
  go_enter Tryz.func25, Tryz.ntmps25
  go_wp2_with fail
  refine (newNode_any _).mono ?_
  rintro e w1 ⟨g, c, rfl, hn⟩
  have HN := Lib.hid hn
  clear hn
  go_wp2_with fail
  go_ret
  have hn := HN.out
  have hb := HB.out
  have t1 : Tch [] w1 (w1.alloc (.cells #[ptr g] 74)) := (Tch.refl _ _).alloc _
  refine ⟨w1.heap.size, g, fun q => if q = [] then some c else none, rfl, ⟨⟨⟨c, if_pos rfl, hn.blk⟩, fun q r hq => ?_, fun q s hs => ?_, fun q q' r r' h1 h2 _ => ?_, ?_⟩, heap_alloc_new _ _, Nat.le_trans hb hn.t.size⟩, ?_, hn.t.trans t1, hn.t.size⟩
  · by_cases e : q = []
    · simp only [e, if_true, Option.some.injEq] at hq
      subst hq
      rw [e]
      exact hn.nd (F := fun _ => False) (Tof.of_tch t1 (by simp)) (fun _ h => h.elim) hb (fun s => by simp)
    · simp [e] at hq
  · exact absurd (cont_none.2 (by simp)) hs
  · have e1 : q = [] := by
      by_cases e : q = []
      · exact e
      · simp [e] at h1
    have e2 : q' = [] := by
      by_cases e : q' = []
      · exact e
      · simp [e] at h2
    rw [e1, e2]
  · have := hn.t.size; simp; omega
  · rw [Cst_new]
    funext q
    unfold cont
    by_cases e : q = []
    · simp [e, hn.ids]
    · simp [e]

theorem Went.from {w w1 w2 : World} {base tb root : Nat} {N N' : Net} {C : Cont} (h : Went w1 base tb root N C w2 N') (t : Tch [] w w1) : Went w base tb root N C w2 N' :=
  ⟨h.tr, h.cont, (Tof.of_tch (F := fpAt N []) t (by simp)).trans h.t (fun _ _ h => h), fun k hk => (h.fp k hk).imp (fun h => h) (fun h => Nat.le_trans t.size h)⟩

section
variable (w : World) (base tb root : Nat) (N : Net) (hA : TrAt w base tb root N) (l : List Int) (a : Option Addr) (c : Nat) (hP : By w l a c) (hX : ∀ ad, a = some ad → ¬ fpAt N [] ad.block) (hll : l.length ≤ 1000000)
  (tx : List UInt8) (hl : tx.length ≤ 1000000) (ht : Tabs w) (hsm : ∀ p ∈ splitB 44 (trimS tx), smallI p)
include hA hP hX hll hl ht hsm

theorem AddMatch_any (n : Nat) (f : Nat → Bool) (hp : parseP tx = some (n, f)) (id : Int) (hcap : ∀ ids, cont N (pathOf f l) = some ids → ids.length < 10000000) :
    Calls Tryz.prog 27 #[ptr tb, .agg #[.slice a l.length c, .string (bs tx)], .int .u64 id] w fun e w' => e = .returned .nilIface ∧ ∃ N', Went w base tb root N (addC (cont N) (pathOf f l) id) w' N' := by
  have HF := Lib.hid (fun w' (t : Tch [] w w') => fixSet_any w' base tb root N (hA.tch t) l a c (hP.tch t) hX hll tx hl (ht.tch t) hsm n f hp id hcap)
  have HT := Lib.hid ((Tch.refl [] w).alloc (.cells #[.slice a l.length c, .string (bs tx)] 55))
  clear hA hP hX hll hl ht hsm hp hcap
  go_enter Tryz.func27, Tryz.ntmps27
  go_wp2_with fail
  refine (HF.out _ HT.out).mono ?_
  rintro e w1 ⟨rfl, N', hW⟩
  have HW := Lib.hid (hW.from HT.out)
  clear hW
  go_wp2_with fail
  go_ret
  exact ⟨rfl, N', HW.out⟩

theorem DeleteMatch_any (n : Nat) (f : Nat → Bool) (hp : parseP tx = some (n, f)) (id : Int) (d : Nat) (hd : ∀ t, N ([] ++ t) ≠ none → t.length ≤ d) :
    Calls Tryz.prog 30 #[ptr tb, .agg #[.slice a l.length c, .string (bs tx)], .int .u64 id] w fun e w' => e = .returned .nilIface ∧ ∃ N', Went w base tb root N (pruneC (delC (cont N) (pathOf f l) id) []) w' N' := by
  have HF := Lib.hid (fun w' (t : Tch [] w w') => fixDel_any w' base tb root N (hA.tch t) l a c (hP.tch t) hX hll tx hl (ht.tch t) hsm n f hp id)
  have HT := Lib.hid ((Tch.refl [] w).alloc (.cells #[.slice a l.length c, .string (bs tx)] 55))
  have HD := Lib.hid hd
  clear hA hP hX hll hl ht hsm hp hd
  go_enter Tryz.func30, Tryz.ntmps30
  go_wp2_with fail
  refine (HF.out _ HT.out).mono ?_
  rintro e w1 ⟨rfl, N1, hW⟩
  have HW := Lib.hid (hW.from HT.out)
  have hct := hW.tr.cell
  obtain ⟨r0, hr0, hrb⟩ := hW.tr.tm.root
  have HR := Lib.hid (rem_any d w1 base root N1 hW.tr.tm [] r0 hr0 (fun t ht => HD.out t (by
    rw [List.nil_append] at ht ⊢
    have h1 := cont_ne.2 ht
    rw [hW.cont] at h1
    unfold delC at h1
    have h2 : cont N t ≠ none := by
      split at h1
      · rename_i e
        rw [e]
        intro h3
        rw [e, h3] at h1
        exact h1 rfl
      · exact h1
    exact cont_ne.1 h2)))
  rw [hrb] at HR
  clear hW hr0 hrb HF
  go_wp2_with fail
  refine HR.out.mono ?_
  rintro e w2 ⟨N2, b, rfl, hRR⟩
  have HWE : Hid (Went w base tb root N (pruneC (delC (cont N) (pathOf f l) id) []) w2 N2) := Lib.hid (by
    have hw := HW.out
    have t2 : Tof (fpAt N []) w w2 := hw.t.trans hRR.t (fun i hi hf => by
      rcases hw.fp i hf with h1 | h1
      · exact h1
      · omega)
    refine ⟨⟨hRR.tm, hRR.t.obj hw.tr.top hw.tr.free, hw.tr.lo⟩, by rw [hRR.ct, hw.cont], t2, fun k hk => hw.fp k (hRR.fp [] k hk)⟩)
  clear hRR hct
  go_wp2_with fail
  go_ret
  exact ⟨rfl, N2, HWE.out⟩


end

section
variable (w : World) (base tb root : Nat) (N : Net) (hA : TrAt w base tb root N) (l : List Int) (a : Option Addr) (c : Nat)
  (tx : List UInt8) (hl : tx.length ≤ 1000000) (ht : Tabs w) (hsm : ∀ p ∈ splitB 44 (trimS tx), smallI p)
include hA hl ht hsm

theorem AddMatch_bad (hp : parseP tx = none) (id : Int) :
    Calls Tryz.prog 27 #[ptr tb, .agg #[.slice a l.length c, .string (bs tx)], .int .u64 id] w fun e w' => (∃ t p, e = .returned (.iface t p)) ∧ Tch [] w w' := by
  have HF := Lib.hid (fun w' (t : Tch [] w w') => fixBad_any w' base tb root N (hA.tch t) l a c tx hl (ht.tch t) hsm hp id 0)
  have HT := Lib.hid ((Tch.refl [] w).alloc (.cells #[.slice a l.length c, .string (bs tx)] 55))
  clear hA hl ht hsm hp
  go_enter Tryz.func27, Tryz.ntmps27
  go_wp2_with fail
  refine (HF.out _ HT.out).mono ?_
  rintro e w1 ⟨⟨et, ep, rfl⟩, t1⟩
  have HW := Lib.hid (HT.out.trans t1)
  clear t1
  go_wp2_with fail
  go_ret
  exact ⟨⟨et, ep, rfl⟩, HW.out⟩

theorem DeleteMatch_bad (hp : parseP tx = none) (id : Int) :
    Calls Tryz.prog 30 #[ptr tb, .agg #[.slice a l.length c, .string (bs tx)], .int .u64 id] w fun e w' => (∃ t p, e = .returned (.iface t p)) ∧ Tch [] w w' := by
  have HF := Lib.hid (fun w' (t : Tch [] w w') => fixBad_any w' base tb root N (hA.tch t) l a c tx hl (ht.tch t) hsm hp id 1)
  have HT := Lib.hid ((Tch.refl [] w).alloc (.cells #[.slice a l.length c, .string (bs tx)] 55))
  clear hA hl ht hsm hp
  go_enter Tryz.func30, Tryz.ntmps30
  go_wp2_with fail
  refine (HF.out _ HT.out).mono ?_
  rintro e w1 ⟨⟨et, ep, rfl⟩, t1⟩
  have HW := Lib.hid (HT.out.trans t1)
  clear t1
  go_wp2_with fail
  go_ret
  exact ⟨⟨et, ep, rfl⟩, HW.out⟩
end

section
variable (w : World) (base tb root : Nat) (N : Net) (hA : TrAt w base tb root N) (l : List Int) (a : Option Addr) (c : Nat) (hP : By w l a c) (hX : ∀ ad, a = some ad → ¬ fpAt N [] ad.block) (hll : l.length ≤ 1000000) (ht : Tabs w)
include hA hP hX hll ht

theorem Add_any (id : Int) (hcap : ∀ ids, cont N (pathOf (fun _ => false) l) = some ids → ids.length < 10000000) :
    Calls Tryz.prog 26 #[ptr tb, .slice a l.length c, .int .u64 id] w fun e w' => e = .returned (.tuple #[]) ∧ ∃ N', Went w base tb root N (addC (cont N) (pathOf (fun _ => false) l) id) w' N' := by
  have HF := Lib.hid (fun w' (t : Tch [] w w') => AddMatch_any w' base tb root N (hA.tch t) l a c (hP.tch t) hX hll [] (by simp) (ht.tch t) small_none 0 (fun _ => false) rfl id hcap)
  have HA0 := Lib.hid (assertTrue_any)
  have HT := Lib.hid ((Tch.refl [] w).alloc (.cells #[.slice a l.length c, .string ⟨#[]⟩] 55))
  clear hA hP hX hll ht hcap
  go_enter Tryz.func26, Tryz.ntmps26
  go_wp2_with fail
  refine (HF.out _ HT.out).mono ?_
  rintro e w1 ⟨rfl, N', hW⟩
  have HW := Lib.hid (hW.from HT.out)
  clear hW
  go_wp2_with fail
  refine (HA0.out _).mono ?_
  rintro e w2 ⟨rfl, hw⟩
  rw [hw]
  clear hw
  go_wp2_with fail
  go_end0
  exact ⟨rfl, N', HW.out⟩

theorem Delete_any (id : Int) (d : Nat) (hd : ∀ t, N ([] ++ t) ≠ none → t.length ≤ d) :
    Calls Tryz.prog 29 #[ptr tb, .slice a l.length c, .int .u64 id] w fun e w' => e = .returned .nilIface ∧ ∃ N', Went w base tb root N (pruneC (delC (cont N) (pathOf (fun _ => false) l) id) []) w' N' := by
  have HF := Lib.hid (DeleteMatch_any w base tb root N hA l a c hP hX hll [] (by simp) ht small_none 0 (fun _ => false) rfl id d hd)
  clear hA hP hX hll ht hd
  go_enter Tryz.func29, Tryz.ntmps29
  go_wp2_with fail
  refine HF.out.mono ?_
  rintro e w1 ⟨rfl, N', hW⟩
  have HW := Lib.hid hW
  clear hW
  go_wp2_with fail
  go_ret
  exact ⟨rfl, N', HW.out⟩
end

end Go.Proofs.YtcolffccbmpndaaGreatDoor
