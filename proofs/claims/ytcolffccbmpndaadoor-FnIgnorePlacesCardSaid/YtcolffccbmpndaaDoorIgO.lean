/- FnIgnoreOne, walked. -/
import Derived.Test.YtcolffccbmpndaaDoorIgY
import Derived.Test.YtcolffccbmpndaaDoorIgX
namespace Go.Proofs.YtcolffccbmpndaaDoor
open Go.RowKit Go.Deep
set_option maxRecDepth 100000

def oneI (a : Nat) (ds : List UInt8) (d : Nat) : It := ⟨a, ds, d, none⟩
def twoI (a : Nat) (ds : List UInt8) (b c : Nat) (es : List UInt8) (d : Nat) : It := ⟨a, ds, b, some (c, es, d)⟩
theorem oneI_good {a d : Nat} {ds : List UInt8} (h : Ds ds) : (oneI a ds d).good := ⟨⟨h, fun c es d e => by simp [oneI] at e⟩, by unfold oneI It.to It.e?; simp⟩
theorem twoI_good {a b c d : Nat} {ds es : List UInt8} (h : Ds ds) (h2 : Ds es) (hle : val ds ≤ val es) : (twoI a ds b c es d).good := by
  refine ⟨⟨h, fun c' es' d' e => ?_⟩, ?_⟩
  · simp only [twoI, Option.some.injEq, Prod.mk.injEq] at e
    obtain ⟨-, rfl, -⟩ := e
    exact h2
  · unfold twoI It.to It.e? It.s
    simpa using hle
theorem oneI_step (a d : Nat) (ds : List UInt8) (x : Nat × (Nat → Bool)) : stepI x (oneI a ds d) = (max x.1 (val ds + 1), fun j => x.2 j || (decide (val ds ≤ j) && decide (j ≤ val ds))) := rfl
theorem twoI_step (a b c d : Nat) (ds es : List UInt8) (x : Nat × (Nat → Bool)) : stepI x (twoI a ds b c es d) = (max x.1 (val es + 1), fun j => x.2 j || (decide (val ds ≤ j) && decide (j ≤ val es))) := rfl

theorem parse_one {ds : List UInt8} (h : Ds ds) : parseP ds = some (val ds + 1, fun j => decide (val ds ≤ j) && decide (j ≤ val ds)) ∧ ∀ p ∈ splitB 44 (trimS ds), smallI p := by
  have hp := parse_pre [] (oneI 0 ds 0) (by simp) (oneI_good h)
  have e : pre [] ++ (oneI 0 ds 0).text = ds := by simp [pre, oneI, It.text, It.core, It.tail, sp]
  rw [e] at hp
  refine ⟨hp.1.trans ?_, hp.2⟩
  simp [oneI_step]
theorem parse_two {ds es : List UInt8} (h : Ds ds) (h2 : Ds es) (hle : val ds ≤ val es) : parseP (ds ++ 45 :: es) = some (val es + 1, fun j => decide (val ds ≤ j) && decide (j ≤ val es)) ∧ ∀ p ∈ splitB 44 (trimS (ds ++ 45 :: es)), smallI p := by
  have hp := parse_pre [] (twoI 0 ds 0 0 es 0) (by simp) (twoI_good h h2 hle)
  have e : pre [] ++ (twoI 0 ds 0 0 es 0).text = ds ++ 45 :: es := by simp [pre, twoI, It.text, It.core, It.tail, sp]
  rw [e] at hp
  refine ⟨hp.1.trans ?_, hp.2⟩
  simp [twoI_step]

/-- A list of none is made. -/
theorem bl_make (w : World) (n : Nat) (hn : n ≤ 100000) :
    ∃ v w', (Instr.makeSlice 22 (.int .u16 (n : Int)) (.int .u16 (n : Int))).run Tryd.prog w = .ok v w' ∧ v = .slice (some ⟨w.heap.size, 0, none⟩) n n ∧ w'.ownsRow w.heap.size 4 1 (.slice (some ⟨w.heap.size, 0, none⟩) n n) n (bl n (fun _ => false)) ∧ Tch [] w w' := by
  obtain ⟨i0, hi, hz0, hz1, hz2⟩ := info_parts Tryd.infoBool
  obtain ⟨w', hr, ho, hg⟩ := run_make_full (P := Tryd.prog) w w.heap.size 22 4 i0 (.bool false) 1 Tryd.underlying22 hi hz0 hz1 .u16 .u16 n (by rw [hz2]; omega) (by unfold maxLen; omega) (Nat.le_refl _)
  refine ⟨_, w', hr, rfl, ?_, (Tch.refl _ _).grown hg (by simp)⟩
  have e : (madeCells (Value.bool false).cells (n * 1)).toList = bl n (fun _ => false) := by
    rw [Nat.mul_one]
    show (madeCells #[Value.bool false] n).toList = _
    rw [toList_madeCells_one]
    unfold bl
    apply List.ext_getElem?
    intro i
    simp only [List.getElem?_replicate, List.getElem?_map]
    by_cases h : i < n <;> simp [h]
  rw [e] at ho
  exact ho

set_option maxHeartbeats 2000000 in
theorem ignO_main (a b : Nat) (w : World) (ht : Tabs w) (ha : a ≤ 9999) (hb : b ≤ 9999) (hab : a ≤ b) :
    Calls Tryd.prog 4 #[.int .u16 a, .int .u16 b] w fun e w' => e = .returned (.bool true) ∧ Tch [] w w' := by
  have HD := Lib.hid (fun (n : Nat) (hn : n ≤ 9999) (w' : World) => decimal_any n w' hn)
  have HI := Lib.hid (fun (l : List UInt8) (w' : World) (t : Tch [] w w') (h1 : l.length ≤ 1000000) (h2 : ∀ p ∈ splitB 44 (trimS l), smallI p) => ignore_any l w' h1 (ht.tch t) h2)
  obtain ⟨i0, hinf, hz0, hz1, hz2⟩ := info_parts Tryd.infoBool
  have HAP := Lib.hid (fun (w0 wr : World) (v : Value) (n : Nat) (xs : List Value) (x : Bool) (h : Own w0 wr 4 1 v n xs) (hn : n ≤ 100000000) => own_app (ty := 22) Tryd.underlying22 hinf hz0 hz1 hz2 rfl (by decide) (by decide) #[.bool x] h hn rfl (by simp [Value.oneCell']))
  have h1 : (a : Int) ≤ 9999 := by omega
  have h2 : (b : Int) ≤ 9999 := by omega
  have h3 : (a : Int) ≤ (b : Int) := by omega
  have HA := Lib.hid ha
  have HB := Lib.hid hb
  have HAB := Lib.hid hab
  clear ht ha hb hab hinf hz0 hz1 hz2
  go_enter Tryd.func4, Tryd.ntmps4
  go_wp2_with fail
  refine (HD.out a HA.out _).mono ?_
  rintro e w1 ⟨ds, rfl, hw, hds, hv⟩
  rw [hw]
  have HDS := Lib.hid hds
  have HV := Lib.hid hv
  have hpo := parse_one hds
  have hdl := hds.len
  have HIG := Lib.hid (fun w' t => HI.out ds w' t (by omega) hpo.2)
  rw [hpo.1] at HIG
  clear hw hds hv hpo hdl
  go_wp2_with fail
  refine (HIG.out _ (Tch.refl _ _)).mono ?_
  rintro e w2 ⟨a2, c2, n2, f2, rfl, k1, k2, k3, k4⟩
  have hq := k4 rfl
  simp only [Option.some.injEq, Prod.mk.injEq] at hq
  obtain ⟨rfl, rfl⟩ := hq
  have HO2 := Lib.hid k1
  clear k1 k2 k3 k4 HIG
  simp only [Option.isSome_some]
  go_wp2_with fail
  refine (HD.out a HA.out _).mono ?_
  rintro e w3 ⟨ds2, rfl, hw, hds2, hv2⟩
  rw [hw]
  have HDS2 := Lib.hid hds2
  have HV2 := Lib.hid hv2
  clear hw hds2 hv2
  have hcat : bs ds2 ++ bs [45] = bs (ds2 ++ [45]) := bs_append _ _
  have hsz : (bs ds2).size = ds2.length := bs_size _
  have hsl : (ds2.length : Int) ≤ 4 := by have := HDS2.out.len; omega
  go_wp2_with fail
  clear hcat hsz
  refine (HD.out b HB.out _).mono ?_
  rintro e w4 ⟨es, rfl, hw, hes, hve⟩
  rw [hw]
  have HES := Lib.hid hes
  have HVE := Lib.hid hve
  have hle : val ds2 ≤ val es := by have := HV2.out; have := HAB.out; omega
  have hpt := parse_two HDS2.out hes hle
  have hel := hes.len
  have hdl2 := HDS2.out.len
  have HIG := Lib.hid (fun w' t => HI.out (ds2 ++ 45 :: es) w' t (by simp; omega) hpt.2)
  rw [hpt.1] at HIG
  clear hw hes hve hpt hle hel hdl2
  have hcat : bs (ds2 ++ [45]) ++ bs es = bs (ds2 ++ 45 :: es) := by rw [bs_append]; simp
  have hsz : (bs (ds2 ++ [45])).size = ds2.length + 1 := by rw [bs_size]; simp
  have hsz2 : (bs es).size = es.length := bs_size _
  have hsl2 : (es.length : Int) ≤ 4 := by have := HES.out.len; omega
  go_wp2_with fail
  clear hcat hsz hsz2
  refine (HIG.out _ HO2.out.t).mono ?_
  rintro e w5 ⟨a5, c5, n5, f5, rfl, k1, k2, k3, k4⟩
  have hq := k4 rfl
  simp only [Option.some.injEq, Prod.mk.injEq] at hq
  obtain ⟨rfl, rfl⟩ := hq
  have HO5 := Lib.hid k1
  have HOA := Lib.hid (HO2.out.tch k1.t)
  have HT5 := Lib.hid (HO2.out.t.trans k1.t)
  clear k1 k2 k3 k4 HIG HI HD
  simp only [Option.isSome_some]
  have HN : Hid (Own w5 (w5.alloc (.cells #[] 4)) 4 1 (.slice (some ⟨w5.heap.size, 0, none⟩) 0 0) 0 []) := Lib.hid (Own.new (Tch.refl _ w5) 4 1)
  go_wp2_with fail
  go_loopg [9, 10, 52] (b + 1) (fun nn s9 s10 s52 wr => ∃ (k : Nat) (a' : Option Addr) (c' : Nat), k ≤ b + 1 ∧ nn = b + 1 - k ∧ s9 = .slice a' k c' ∧ s52 = .int .i64 k ∧ Hid (Own w5 wr 4 1 (.slice a' k c') k (bl k (fun j => decide (a ≤ j)))))
  case atStart => exact ⟨0, _, _, Nat.zero_le _, rfl, rfl, rfl, HN.out⟩
  case round =>
    obtain ⟨k, a', c', hk, rfl, rfl, rfl, HR⟩ := hrel
    rename World => wr
    by_cases hlt : k < b + 1
    · have hlt2 : (k : Int) < (b : Int) + 1 := by omega
      have HLT := Lib.hid hlt
      have HA1 := Lib.hid (HAP.out _ _ _ _ _ (decide (a ≤ k)) HR.out (by have := HB.out; omega))
      clear hlt
      go_wp2_with (at_builtin; refine wpList_append_run rfl (.tmp 55) (.tmp 60) 22 rfl (.slice a' k c') (.slice (some ⟨wr.heap.size, 0, none⟩) 1 1) (by simp [Act.eval]) (by simp [Act.eval]) _ HA1.out ?_; rintro vv w7 ⟨g7, c7, rfl, n1, n2, n3, n4, n5⟩; have HN1 := Lib.hid n1; clear n1 n2 n3 n4 n5)
      go_roundg (b + 1 - (k + 1))
      case rel => exact ⟨k + 1, _, _, by have := HLT.out; omega, rfl, rfl, by go_num, by rw [bl_succ]; exact HN1.out⟩
      case measure => have := HLT.out; omega
    · obtain rfl : k = b + 1 := by omega
      have HOS := Lib.hid HR.out
      have HTR := Lib.hid (HT5.out.trans HR.out.t)
      clear HR hlt
      have hmk := bl_make wr (a + 1) (by have := HA.out; omega)
      rw [show ((a + 1 : Nat) : Int) = (a : Int) + 1 from by omega] at hmk
      have HMK := Lib.hid hmk
      clear hmk
      go_wp2_with (refine wpList_make_run rfl (.tmp 64) (.tmp 64) 22 rfl (.int .u16 ((a : Int) + 1)) (.int .u16 ((a : Int) + 1)) (by simp [Act.eval]) (by simp [Act.eval]) _ HMK.out ?_; rintro vv w6 ⟨rfl, q1, q2⟩; have hcl : w6.cell? ⟨wr.heap.size, a, none⟩ = some (.bool false) := by { rw [q1.cellAt a (by omega)]; simp [bl] }; have hfz := q1.frozenAt a; have HQ1 := Lib.hid q1; have HQ2 := Lib.hid q2; clear q1 q2)
      have HT7 := Lib.hid ((HQ2.out).setCell (p := ⟨wr.heap.size, a, none⟩) (fun h => absurd h (by show ¬ wr.heap.size < wr.heap.size; omega)) (.bool true))
      have hst := (HQ1.out.stored a (.bool true)).1
      rw [bl_set] at hst
      have HA6 := Lib.hid ((HOA.out.tch HOS.out.t).tch HT7.out).blAt
      have HB6 := Lib.hid (HOS.out.tch HT7.out).blAt
      have HB5 := Lib.hid ((HO5.out.tch HOS.out.t).tch HT7.out).blAt
      have HC6 := Lib.hid (⟨HT7.out, hst⟩ : Own wr _ _ _ _ _ _).blAt
      have HTE := Lib.hid (HTR.out.trans HT7.out)
      generalize w6.setCell ⟨wr.heap.size, a, none⟩ (.bool true) = w7 at *
      have HS1 := Lib.hid (same_any _ _ _ _ _ _ w7 HA6.out HC6.out (by have := HA.out; have := HV.out; omega) (by have := HA.out; omega) (fun i => by
        rw [HV.out, Bool.eq_iff_iff]
        simp
        omega))
      have HS2 := Lib.hid (fun (w8 : World) (t : Tch [] w7 w8) => same_any _ _ _ _ _ _ w8 (HB5.out.tch t) (HB6.out.tch t) (by have := HB.out; have := HVE.out; omega) (by have := HB.out; omega) (fun i => by
        rw [HV2.out, HVE.out, Bool.eq_iff_iff]
        simp
        omega))
      clear hst hcl hfz
      go_wp2_with fail
      refine HS1.out.mono ?_
      rintro e w8 ⟨rfl, t⟩
      have HT8 := Lib.hid t
      have HTF := Lib.hid (HTE.out.trans t)
      clear t
      go_wp2_with fail
      refine (HS2.out _ HT8.out).mono ?_
      rintro e w9 ⟨rfl, t⟩
      have HTG := Lib.hid (HTF.out.trans t)
      clear t
      go_wp2_with fail
      go_ret
      exact ⟨rfl, HTG.out⟩

/-- The places that are read of a number and of a range are those that they tell. -/
theorem ignO_any (A B : Int) (hA : 0 ≤ A) (hB : 0 ≤ B) (w : World) (ht : Tabs w) :
    Calls Tryd.prog 4 #[.int .u16 A, .int .u16 B] w fun e w' => e = .returned (.bool true) ∧ Tch [] w w' := by
  by_cases h : A ≤ 9999 ∧ B ≤ 9999 ∧ A ≤ B
  · obtain ⟨h1, h2, h3⟩ := h
    obtain ⟨a, rfl⟩ : ∃ a : Nat, A = a := ⟨A.toNat, by omega⟩
    obtain ⟨b, rfl⟩ : ∃ b : Nat, B = b := ⟨B.toNat, by omega⟩
    exact ignO_main a b w ht (by omega) (by omega) (by omega)
  · have HT := Lib.hid (Tch.refl [] w)
    clear ht
    by_cases h1 : A ≤ 9999
    · by_cases h2 : B ≤ 9999
      · have h3 : B < A := by
          by_cases q : B < A
          · exact q
          · exact absurd ⟨h1, h2, by omega⟩ h
        clear h
        go_enter Tryd.func4, Tryd.ntmps4
        go_wp2_with fail
        go_ret
        exact ⟨rfl, HT.out⟩
      · have h3 : (9999 : Int) < B := by omega
        clear h h2
        go_enter Tryd.func4, Tryd.ntmps4
        go_wp2_with fail
        go_ret
        exact ⟨rfl, HT.out⟩
    · have h3 : (9999 : Int) < A := by omega
      clear h h1
      go_enter Tryd.func4, Tryd.ntmps4
      go_wp2_with fail
      go_ret
      exact ⟨rfl, HT.out⟩

end Go.Proofs.YtcolffccbmpndaaDoor
