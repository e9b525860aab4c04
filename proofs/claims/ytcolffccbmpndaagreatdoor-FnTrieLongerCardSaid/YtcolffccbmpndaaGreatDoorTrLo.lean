/- FnTrieLonger, walked. -/
import Derived.Test.YtcolffccbmpndaaGreatDoorTrLa
namespace Go.Proofs.YtcolffccbmpndaaGreatDoor
open Go.RowKit Go.Deep
set_option maxRecDepth 100000

set_option maxHeartbeats 8000000 in
theorem longer_any (w : World) (L : List StepD) (sa : Option Addr) (cz : Nat) (hst : StepsAt w sa L) (key : List Int) (ka : Option Addr) (kc : Nat) (hk : By w key ka kc) (more : List Int) (ma : Option Addr) (mc : Nat) (hm : By w more ma mc) (ht : Tabs w) :
    Calls Tryz.prog 5 #[.slice sa L.length cz, .slice ka key.length kc, .slice ma more.length mc] w fun e w' => e = .returned (.bool true) ∧ Tch [] w w' := by
  have HF := Lib.hid (fits14_any w L sa cz hst)
  have HST := Lib.hid (fun w' (t : Tch [] w w') => hst.tch t)
  have HK := Lib.hid hk
  have HM := Lib.hid hm
  have HTB := Lib.hid ht
  clear hst hk hm ht
  go_enter Tryz.func5, Tryz.ntmps5
  go_wp2_with fail
  refine HF.out.mono ?_
  rintro e w1 ⟨b, rfl, t, hb⟩
  have HT1 := Lib.hid t
  have HB := Lib.hid hb
  clear t hb
  cases b with
  | false =>
    go_wp2_with fail
    go_ret
    exact ⟨rfl, HT1.out⟩
  | true =>
    by_cases hk0 : key.length ≤ 2147483647
    rotate_left
    · have g1 : (2147483647 : Int) < (key.length : Int) := by omega
      clear hk0
      go_wp2_with fail
      go_ret
      exact ⟨rfl, HT1.out⟩
    have g1 : (key.length : Int) ≤ 2147483647 := by omega
    have d1 : decide ((2147483647 : Int) < (key.length : Int)) = false := decide_eq_false (by omega)
    by_cases hm0 : more.length ≤ 2147483647
    rotate_left
    · have g3 : (2147483647 : Int) < (more.length : Int) := by omega
      clear hk0 hm0
      go_wp2_with fail
      go_ret
      exact ⟨rfl, HT1.out⟩
    have g3 : (more.length : Int) ≤ 2147483647 := by omega
    have d3 : decide ((2147483647 : Int) < (more.length : Int)) = false := decide_eq_false (by omega)
    have HSM := Lib.hid (smallTrie_any w1 L sa cz (HST.out w1 HT1.out) (HB.out (by simp)))
    clear hk0 hm0
    go_wp2_with fail
    clear d1 d3
    refine HSM.out.mono ?_
    rintro e w2 ⟨b, rfl, t, hb⟩
    have HT2 := Lib.hid (HT1.out.trans t)
    have HB2 := Lib.hid hb
    clear t hb
    cases b with
    | false =>
      go_wp2_with fail
      go_ret
      exact ⟨rfl, HT2.out⟩
    | true =>
      by_cases hk1 : key.length ≤ 10000
      rotate_left
      · have g2 : (10000 : Int) < (key.length : Int) := by omega
        clear hk1
        go_wp2_with fail
        go_ret
        exact ⟨rfl, HT2.out⟩
      have g2 : (key.length : Int) ≤ 10000 := by omega
      have d2 : decide ((10000 : Int) < (key.length : Int)) = false := decide_eq_false (by omega)
      by_cases hm1 : more.length ≤ 10000
      rotate_left
      · have g4 : (10000 : Int) < (more.length : Int) := by omega
        clear hk1 hm1
        go_wp2_with fail
        go_ret
        exact ⟨rfl, HT2.out⟩
      have g4 : (more.length : Int) ≤ 10000 := by omega
      have d4 : decide ((10000 : Int) < (more.length : Int)) = false := decide_eq_false (by omega)
      have HKL := Lib.hid hk1
      have HML := Lib.hid hm1
      have HTS := Lib.hid (trieSteps_any w2 L sa cz (HST.out w2 HT2.out) (HB2.out (by simp)))
      clear hk1 hm1
      go_wp2_with fail
      clear d2 d4
      refine HTS.out.mono ?_
      rintro e w3 ⟨b, rfl, t, hb⟩
      have HT3 := Lib.hid (HT2.out.trans t)
      have HB3 := Lib.hid hb
      clear t hb
      cases b with
      | false =>
        go_wp2_with fail
        go_ret
        exact ⟨rfl, HT3.out⟩
      | true =>
        have HG : Hid (Guarded L) := Lib.hid ⟨HB2.out (by simp), HB3.out (by simp)⟩
        clear HB HB2 HB3 HSM HTS
        obtain ⟨V, hV, hVA⟩ := (HST.out w3 HT3.out).v
        have hvl : L.length = V.length := by rw [← hV, List.length_map]
        rw [hvl]
        have HLN : Hid (V.length ≤ 1000) := Lib.hid (by rw [← hvl]; exact HG.out.small.1)
        have HVL := Lib.hid hV
        have h30 : ∀ x ∈ V, By w3 x.s.bytes x.a x.c := fun x hx => by
          obtain ⟨i, hi, e⟩ := List.getElem_of_mem hx
          obtain ⟨-, -, -, h⟩ := hVA i x (by rw [List.getElem?_eq_getElem hi, e])
          exact h
        have hk3 := HK.out.tch HT3.out
        have hm3 := HM.out.tch HT3.out
        have HA1 := Lib.hid ((RowV.nil w3 w3 (Tch.refl [] w3)).appsN sa cz (hVA.tch ((Tch.refl [] w3).alloc _)) h30 (by have := HLN.out; simp only [List.length_nil]; omega))
        simp only [List.length_nil, Nat.zero_add, List.nil_append] at HA1
        have HA2 := Lib.hid (fun (w4 : World) (t : Tch [] w3 w4) => own_bytes_apps (l := []) (Own.new (Tch.refl [] w4) 5 1) ((hk3.tch t).tch ((Tch.refl [] w4).alloc (.cells #[] 5))) (by have := HKL.out; simp only [List.length_nil]; omega))
        simp only [List.length_nil, Nat.zero_add, List.nil_append] at HA2
        have HA3 := Lib.hid (fun (w4 w5 : World) (a5 : Option Addr) (c5 : Nat) (t3 : Tch [] w3 w4) (h5 : Own w4 w5 5 1 (.slice a5 key.length c5) key.length (u8V key)) => own_bytes_apps h5 ((hm3.tch t3).tch h5.t) (by have := HKL.out; have := HML.out; omega))
        have HA4 := Lib.hid (fun (w4 w6 : World) (a4 ma' : Option Addr) (c4 mc' : Nat) (R : RowV w3 w4 a4 c4 V) (t : Tch [] w4 w6) => long_app (ka := ka) (kc := kc) (ma := ma') (mc := mc') key more (R.tch t) HLN.out)
        have HCL := Lib.hid (fun (w4 w6 w7 : World) (a4 a6 a7 : Option Addr) (c4 c6 c7 : Nat) (hR : RowV w3 w4 a4 c4 V) (hB : Own w4 w6 5 1 (.slice a6 (key.length + more.length) c6) (key.length + more.length) (u8V (key ++ more))) (hO : Own w3 w7 28 4 (.slice a7 (V.length + 4) c7) (V.length + 4) ((longV V key more ka kc a6 c6).flatMap stC)) (ht : Tch (Value.slice a4 V.length c4).ownBlock.toList w6 w7) => long_end hR hB hO ht HVL.out hk3 HM.out.u8 HG.out HKL.out HML.out (HTB.out.tch HT3.out))
        have hvI : (V.length : Int) ≤ 1000 := by have := HLN.out; omega
        clear hvl hV hVA h30 hk3 hm3
        go_wp2_with (at_builtin; first
          | (refine wpList_append_run rfl (.tmp 51) (.tmp 52) 22 rfl (.slice (some ⟨w3.heap.size, 0, none⟩) 0 0) (.slice sa V.length cz) (by simp [Act.eval]) (by simp [Act.eval]) _ HA1.out ?_; rintro vv w4 ⟨a4, c4, rfl, n1, -⟩; have HN4 := Lib.hid n1; clear n1)
          | (refine wpList_append_run rfl (.tmp 56) (.tmp 57) 23 rfl (.slice (some ⟨w4.heap.size, 0, none⟩) 0 0) (.slice ka key.length kc) (by simp [Act.eval]) (by simp [Act.eval]) _ (HA2.out w4 HN4.out.own.t) ?_; rintro vv w5 ⟨a5, c5, rfl, n1, -⟩; have HN5 := Lib.hid n1; clear n1)
          | (refine wpList_append_run rfl (.tmp 58) (.tmp 59) 23 rfl (.slice a5 key.length c5) (.slice ma more.length mc) (by simp [Act.eval]) (by simp [Act.eval]) _ (HA3.out w4 w5 a5 c5 HN4.out.own.t HN5.out) ?_; rintro vv w6 ⟨a6, c6, rfl, n1, -⟩; have HN6 := Lib.hid n1; clear n1)
          | (refine wpList_append_run rfl (.tmp 53) (.tmp 65) 22 rfl (.slice a4 V.length c4) (.slice (some ⟨w6.heap.size, 0, none⟩) 4 4) (by simp [Act.eval]) (by simp [Act.eval]) _ (HA4.out w4 w6 a4 a6 c4 c6 HN4.out HN6.out.t) ?_; rintro vv w7 ⟨a7, c7, rfl, n1, n2⟩; have HN7 := Lib.hid n1; have HM7 := Lib.hid n2; clear n1 n2))
        refine (HCL.out w4 w6 w7 a4 a6 a7 c4 c6 c7 HN4.out HN6.out HN7.out HM7.out).mono ?_
        rintro e w8 ⟨g, oc, i1, i2, i3, rfl, t, h3⟩
        have HT8 := Lib.hid ((HT3.out.trans HN7.out.t).trans t)
        have H3 := Lib.hid h3
        clear t h3 HCL HA1 HA2 HA3 HA4 HN4 HN5 HN6 HN7 HM7
        obtain ⟨b1, q1, x1, u1⟩ := H3.out.c1
        have HU1 := Lib.hid u1
        clear u1
        go_wp2_with fail
        have hn1 : (i1.length : Int) ≤ 1001 := by have := H3.out.le1; have := HLN.out; omega
        have hn2 : (i2.length : Int) ≤ 1001 := by have := H3.out.le2; have := HLN.out; omega
        have hn3 : (i3.length : Int) ≤ 1001 := by have := H3.out.le3; have := HLN.out; omega
        go_loopg [80] i1.length (fun nn s80 wr => ∃ i : Nat, i ≤ i1.length ∧ nn = i1.length - i ∧ s80 = .int .i64 i ∧ Hid (Tch [] w8 wr))
        case atStart => exact ⟨0, Nat.zero_le _, rfl, rfl, Lib.hid (Tch.refl _ _)⟩
        case round =>
          obtain ⟨i, hi, rfl, rfl, HZ⟩ := hrel
          rename World => wr
          by_cases hlt : i < i1.length
          · have HLT := Lib.hid hlt
            have hlo : (i : Int) < (i1.length : Int) := by omega
            obtain ⟨ad, rfl, hca⟩ := (HU1.out.tch HZ.out).cell i hlt
            have hmem : i1.getD i 0 ∈ i2 := H3.out.sub _ (by simp [List.getD, List.getElem?_eq_getElem hlt])
            generalize i1.getD i 0 = id at *
            have HMEM := Lib.hid hmem
            obtain ⟨b2, q2, x2, u2⟩ := H3.out.c2
            have x2' := cell_tch x2 HZ.out
            have HU2 := Lib.hid (u2.tch HZ.out)
            clear hlt hi hmem x2 u2
            go_wp2_with fail
            clear x2' hca
            go_loopg [12, 91] i2.length (fun nn s12 s91 wx => ∃ j : Nat, j ≤ i2.length ∧ nn = i2.length - j ∧ s91 = .int .i64 j ∧ s12 = .bool (decide (id ∈ i2.take j)) ∧ Hid (Tch [] wr wx))
            case atStart => exact ⟨0, Nat.zero_le _, rfl, rfl, by simp, Lib.hid (Tch.refl _ _)⟩
            case round =>
              obtain ⟨j, hj, rfl, rfl, rfl, HY⟩ := hrel
              rename World => wx
              by_cases hlt : j < i2.length
              · have HLT2 := Lib.hid hlt
                have hlt2 : (j : Int) < (i2.length : Int) := by omega
                obtain ⟨bd, rfl, hcb⟩ := (HU2.out.tch HY.out).cell j hlt
                have HST : Hid (decide (id ∈ i2.take (j + 1)) = (decide (id ∈ i2.take j) || decide (i2.getD j 0 = id))) := Lib.hid (by
                  rw [List.take_succ_eq_append_getElem hlt]
                  simp only [List.mem_append, List.mem_singleton, Bool.decide_or, List.getD, List.getElem?_eq_getElem hlt, Option.getD_some]
                  congr 1
                  exact decide_eq_decide.2 ⟨fun h => h.symm, fun h => h.symm⟩)
                generalize i2.getD j 0 = x at *
                generalize decide (id ∈ i2.take j) = b at *
                clear hlt hj
                cases b with
                | true =>
                  go_wp2_with fail
                  go_roundg (i2.length - (j + 1))
                  case rel => exact ⟨j + 1, HLT2.out, rfl, by go_num, by rw [HST.out]; rfl, HY⟩
                  case measure => have := HLT2.out; omega
                | false =>
                  by_cases hx : x = id
                  · have hb : (x == id) = true := by simpa using hx
                    have HX : Hid (decide (x = id) = true) := Lib.hid (by simpa using hx)
                    clear hx
                    go_wp2_with fail
                    go_roundg (i2.length - (j + 1))
                    case rel => exact ⟨j + 1, HLT2.out, rfl, by go_num, by rw [HST.out, HX.out]; rfl, HY⟩
                    case measure => have := HLT2.out; omega
                  · have hb : (x == id) = false := by simpa using hx
                    have HX : Hid (decide (x = id) = false) := Lib.hid (by simpa using hx)
                    clear hx
                    go_wp2_with fail
                    go_roundg (i2.length - (j + 1))
                    case rel => exact ⟨j + 1, HLT2.out, rfl, by go_num, by rw [HST.out, HX.out]; rfl, HY⟩
                    case measure => have := HLT2.out; omega
              · obtain rfl : j = i2.length := by omega
                rw [List.take_length, decide_eq_true HMEM.out]
                clear hlt hj
                go_wp2_with fail
                go_roundg (i1.length - (i + 1))
                case rel => exact ⟨i + 1, HLT.out, rfl, by go_num, Lib.hid (HZ.out.trans HY.out)⟩
                case measure => have := HLT.out; omega
          · obtain rfl : i = i1.length := by omega
            clear hlt hi
            obtain ⟨b3, q3, x3, u3⟩ := H3.out.c3
            have x3' := cell_tch x3 HZ.out
            have HU3 := Lib.hid (u3.tch HZ.out)
            clear x3 u3
            go_wp2_with fail
            go_loopg [15, 112] i3.length (fun nn s15 s112 wx => ∃ j : Nat, j ≤ i3.length ∧ nn = i3.length - j ∧ s112 = .int .i64 j ∧ s15 = .bool (decide ((1 : Int) ∈ i3.take j)) ∧ Hid (Tch [] wr wx))
            case atStart => exact ⟨0, Nat.zero_le _, rfl, rfl, by simp, Lib.hid (Tch.refl _ _)⟩
            case round =>
              obtain ⟨j, hj, rfl, rfl, rfl, HY⟩ := hrel
              rename World => wx
              by_cases hlt : j < i3.length
              · have HLT2 := Lib.hid hlt
                have hlt2 : (j : Int) < (i3.length : Int) := by omega
                obtain ⟨bd, rfl, hcb⟩ := (HU3.out.tch HY.out).cell j hlt
                have HST : Hid (decide ((1 : Int) ∈ i3.take (j + 1)) = (decide ((1 : Int) ∈ i3.take j) || decide (i3.getD j 0 = 1))) := Lib.hid (by
                  rw [List.take_succ_eq_append_getElem hlt]
                  simp only [List.mem_append, List.mem_singleton, Bool.decide_or, List.getD, List.getElem?_eq_getElem hlt, Option.getD_some]
                  congr 1
                  exact decide_eq_decide.2 ⟨fun h => h.symm, fun h => h.symm⟩)
                generalize i3.getD j 0 = x at *
                generalize decide ((1 : Int) ∈ i3.take j) = b at *
                clear hlt hj
                cases b with
                | true =>
                  go_wp2_with fail
                  go_roundg (i3.length - (j + 1))
                  case rel => exact ⟨j + 1, HLT2.out, rfl, by go_num, by rw [HST.out]; rfl, HY⟩
                  case measure => have := HLT2.out; omega
                | false =>
                  by_cases hx : x = 1
                  · have hb : (x == 1) = true := by simpa using hx
                    have HX : Hid (decide (x = 1) = true) := Lib.hid (by simpa using hx)
                    clear hx
                    go_wp2_with fail
                    go_roundg (i3.length - (j + 1))
                    case rel => exact ⟨j + 1, HLT2.out, rfl, by go_num, by rw [HST.out, HX.out]; rfl, HY⟩
                    case measure => have := HLT2.out; omega
                  · have hb : (x == 1) = false := by simpa using hx
                    have HX : Hid (decide (x = 1) = false) := Lib.hid (by simpa using hx)
                    clear hx
                    go_wp2_with fail
                    go_roundg (i3.length - (j + 1))
                    case rel => exact ⟨j + 1, HLT2.out, rfl, by go_num, by rw [HST.out, HX.out]; rfl, HY⟩
                    case measure => have := HLT2.out; omega
              · obtain rfl : j = i3.length := by omega
                rw [List.take_length, decide_eq_true H3.out.one]
                clear hlt hj
                go_wp2_with fail
                go_ret
                exact ⟨rfl, (HT8.out.trans HZ.out).trans HY.out⟩

end Go.Proofs.YtcolffccbmpndaaGreatDoor
