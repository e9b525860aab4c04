/- FnTrieOrder, walked. -/
import Derived.Test.YtcolffccbmpndaaGreatDoorTrOa
namespace Go.Proofs.YtcolffccbmpndaaGreatDoor
open Go.RowKit Go.Deep
set_option maxRecDepth 100000

set_option maxHeartbeats 8000000 in
theorem order_any (w : World) (L : List StepD) (sa : Option Addr) (cz : Nat) (hst : StepsAt w sa L) (key : List Int) (ka : Option Addr) (kc : Nat) (hk : By w key ka kc) (ht : Tabs w) :
    Calls Tryz.prog 8 #[.slice sa L.length cz, .slice ka key.length kc] w fun e w' => e = .returned (.bool true) ∧ Tch [] w w' := by
  have HF := Lib.hid (fits14_any w L sa cz hst)
  have HST := Lib.hid (fun w' (t : Tch [] w w') => hst.tch t)
  have HK := Lib.hid hk
  have HTB := Lib.hid ht
  clear hst hk ht
  go_enter Tryz.func8, Tryz.ntmps8
  go_wp2_with fail
  refine HF.out.mono ?_
  rintro e w1 ⟨b, rfl, t, hb⟩
  have HT1 := Lib.hid t
  have HB := Lib.hid hb
  clear t hb
  cases b with
  | false =>
    go_wp2_with fail
    go_ret
    exact ⟨rfl, HT1.out⟩
  | true =>
    by_cases hk0 : key.length ≤ 2147483647
    rotate_left
    · have g1 : (2147483647 : Int) < (key.length : Int) := by omega
      clear hk0
      go_wp2_with fail
      go_ret
      exact ⟨rfl, HT1.out⟩
    have g1 : (key.length : Int) ≤ 2147483647 := by omega
    have d1 : decide ((2147483647 : Int) < (key.length : Int)) = false := decide_eq_false (by omega)
    have HSM := Lib.hid (smallTrie_any w1 L sa cz (HST.out w1 HT1.out) (HB.out (by simp)))
    clear hk0
    go_wp2_with fail
    clear d1
    refine HSM.out.mono ?_
    rintro e w2 ⟨b, rfl, t, hb⟩
    have HT2 := Lib.hid (HT1.out.trans t)
    have HB2 := Lib.hid hb
    clear t hb
    cases b with
    | false =>
      go_wp2_with fail
      go_ret
      exact ⟨rfl, HT2.out⟩
    | true =>
      by_cases hk1 : key.length ≤ 10000
      rotate_left
      · have g2 : (10000 : Int) < (key.length : Int) := by omega
        clear hk1
        go_wp2_with fail
        go_ret
        exact ⟨rfl, HT2.out⟩
      have g2 : (key.length : Int) ≤ 10000 := by omega
      have d2 : decide ((10000 : Int) < (key.length : Int)) = false := decide_eq_false (by omega)
      have HKL := Lib.hid hk1
      have HTS := Lib.hid (trieSteps_any w2 L sa cz (HST.out w2 HT2.out) (HB2.out (by simp)))
      clear hk1
      go_wp2_with fail
      clear d2
      refine HTS.out.mono ?_
      rintro e w3 ⟨b, rfl, t, hb⟩
      have HT3 := Lib.hid (HT2.out.trans t)
      have HB3 := Lib.hid hb
      clear t hb
      cases b with
      | false =>
        go_wp2_with fail
        go_ret
        exact ⟨rfl, HT3.out⟩
      | true =>
        have HG : Hid (Guarded L) := Lib.hid ⟨HB2.out (by simp), HB3.out (by simp)⟩
        clear HB HB2 HB3 HSM HTS
        obtain ⟨V, hV, hVA⟩ := (HST.out w3 HT3.out).v
        have hvl : L.length = V.length := by rw [← hV, List.length_map]
        rw [hvl]
        have HAD := Lib.hid (adds_any w3 V sa cz hVA (by rw [← hvl]; exact HG.out.small.1))
        have HVL := Lib.hid hV
        have HLN : Hid (V.length ≤ 1000) := Lib.hid (by rw [← hvl]; exact HG.out.small.1)
        clear hvl hV hVA
        go_wp2_with fail
        refine HAD.out.mono ?_
        rintro e w4 ⟨a, c, rfl, hR⟩
        obtain ⟨A, hA⟩ : ∃ A, A = V.filter isAdd := ⟨_, rfl⟩
        have HAO : Hid ((∀ x ∈ A, okS x.s ∧ isAddD x.s) ∧ A.length ≤ 1000) := Lib.hid (by
          refine ⟨fun x hx => ?_, by rw [hA]; exact Nat.le_trans (List.length_filter_le _ _) HLN.out⟩
          rw [hA] at hx
          obtain ⟨h1, h2⟩ := List.mem_filter.1 hx
          have h3 := okS_of HG.out.small HG.out.ok x.s (by rw [← HVL.out]; exact List.mem_map.2 ⟨x, h1, rfl⟩)
          refine ⟨h3.1, h3.2 ?_⟩
          unfold isAdd at h2
          simpa using h2)
        rw [← hA] at hR ⊢
        have HR0 := Lib.hid hR
        have HT4 := Lib.hid (HT3.out.trans hR.own.t)
        have hal : (A.length : Int) ≤ 1000 := by have := HAO.out.2; omega
        clear hR hA HAD
        go_wp2_with fail
        have HN0 := Lib.hid (RowV.nil w4 w4 (Tch.refl [] w4))
        go_loopg [6, 7] A.length (fun nn s6 s7 wr => ∃ (k : Nat) (a2 : Option Addr) (c2 : Nat), k ≤ A.length ∧ nn = A.length - k ∧ s6 = .slice a2 k c2 ∧ s7 = .int .i64 ((A.length : Int) - 1 - (k : Int)) ∧ Hid (RowV w4 wr a2 c2 (A.reverse.take k)))
        case atStart => exact ⟨0, _, _, Nat.zero_le _, rfl, rfl, by simp, HN0⟩
        case round =>
          obtain ⟨k, a2, c2, hi, rfl, rfl, rfl, HZ⟩ := hrel
          rename World => wr
          by_cases hlt : k < A.length
          · have HLT := Lib.hid hlt
            obtain ⟨j, hj⟩ : ∃ j, A.length = j + 1 + k := ⟨A.length - 1 - k, by omega⟩
            have hjl : j < A.length := by omega
            have hx : A[j]? = some A[j] := List.getElem?_eq_getElem hjl
            have hrk : k < A.reverse.length := by simpa using hlt
            have htk : A.reverse.take (k + 1) = A.reverse.take k ++ [A[j]] := by
              rw [List.take_succ_eq_append_getElem hrk, List.getElem_reverse]
              have e : A.length - 1 - k = j := by omega
              simp only [e]
            have hb0 := HR0.out.by_ A[j] (List.getElem_mem hjl)
            obtain ⟨g, rfl, hg, hc⟩ := (HR0.out.tch HZ.out.own.t).at_ hx
            have x0 := hc 0 (by omega)
            have x1 := hc 1 (by omega)
            have x2 := hc 2 (by omega)
            have x3 := hc 3 (by omega)
            generalize A[j] = x at *
            rw [show (A.length : Int) - 1 - (k : Int) = (j : Int) from by omega]
            have hjI : (j : Int) < (A.length : Int) := by omega
            have hkI : (k : Int) ≤ 1000 := by omega
            have hj0 : (0 : Int) ≤ (j : Int) := by omega
            have HTK := Lib.hid htk
            have HJ := Lib.hid hj
            have HRA := Lib.hid (HZ.out.app x hb0 (by simp; omega))
            have hlen : (A.reverse.take k).length = k := by simp; omega
            rw [hlen] at HRA
            obtain ⟨⟨kd, bytes, holes, id⟩, xa, xc⟩ := x
            simp only [stC, List.getElem?_cons_succ, List.getElem?_cons_zero, Nat.add_zero] at x0 x1 x2 x3
            simp only [] at HRA
            clear hlt hi hx htk hb0 hg hc hlen HZ hrk hjl hj
            go_wp2_with (at_builtin; refine wpList_append_run rfl (.tmp 43) (.tmp 48) 22 rfl (.slice a2 k c2) (.slice (some ⟨wr.heap.size, 0, none⟩) 1 1) (by simp [Act.eval]) (by simp [Act.eval]) _ (by simpa using HRA.out) ?_; rintro vv w7 ⟨g7, c7, rfl, n1⟩; have HN1 := Lib.hid n1; clear n1)
            go_roundg (A.length - (k + 1))
            case rel => exact ⟨k + 1, _, _, HLT.out, rfl, rfl, by have := HJ.out; go_num, Lib.hid (by rw [HTK.out]; simpa using HN1.out)⟩
            case measure => have := HLT.out; omega
          · obtain rfl : k = A.length := by omega
            rw [show (A.length : Int) - 1 - (A.length : Int) = (-1 : Int) from by omega]
            have hr := HZ.out
            rw [List.take_of_length_le (by simp)] at hr
            have HTW := Lib.hid hr
            have HON := Lib.hid (HR0.out.tch hr.own.t)
            have HALT := Lib.hid (HR0.out.lt)
            have HTLT := Lib.hid (hr.lt)
            have HBA := Lib.hid (HR0.out.by0)
            have hk3 := HK.out.tch HT3.out
            obtain ⟨T, T', ids, m, nd, hT1, hT2, hnd, hil, hr1, hr2⟩ := order_run2 (A.map (·.s)) key (fun s hs => by
              obtain ⟨x, hx, rfl⟩ := List.mem_map.1 hs
              exact (HAO.out.1 x hx).2)
            rw [List.length_map] at hT1 hT2 hil
            rw [← List.map_reverse] at hr2
            have tal := (Tch.refl [] wr).alloc (.cells #[.int .i64 4, .slice ka key.length kc, .string ⟨#[]⟩, .int .u64 0, .int .i64 5, .slice none 0 0, .string ⟨#[]⟩, .int .u64 0] 28)
            have hask := heap_alloc_new wr (.cells #[.int .i64 4, .slice ka key.length kc, .string ⟨#[]⟩, .int .u64 0, .int .i64 5, .slice none 0 0, .string ⟨#[]⟩, .int .u64 0] 28)
            have hb5 : By w3 ([] : List Int) none 0 := ⟨Nat.le_refl _, fun _ => ⟨rfl, rfl⟩, fun ad hd => by simp at hd, by simp⟩
            have HRA := Lib.hid ((HON.out.tch tal).apps2 ⟨⟨4, key, [], 0⟩, ka, kc⟩ ⟨⟨5, [], [], 0⟩, none, 0⟩ hk3 hb5 (by have := HAO.out.2; omega) hask)
            -- the second append, wherever the first run ends
            have HRB := Lib.hid (fun (w5 w6 : World) (t5 : Tch (Value.slice a A.length c).ownBlock.toList (wr.alloc (.cells #[.int .i64 4, .slice ka key.length kc, .string ⟨#[]⟩, .int .u64 0, .int .i64 5, .slice none 0 0, .string ⟨#[]⟩, .int .u64 0] 28)) w5) (t35 : Tch [] w3 w5) (t6 : Tch [] w5 w6) => by
              have hS : ∀ k ∈ (Value.slice a A.length c).ownBlock.toList, k < w4.heap.size := fun k hk => by
                cases a with
                | none => simp [Value.ownBlock] at hk
                | some ad => simp [Value.ownBlock] at hk; subst hk; exact (HALT.out ad rfl).2
              have two5 : RowV w3 w5 a2 c2 A.reverse := (((HTW.out.tch tal).base HR0.out.own.t (fun x hx => HBA.out x (by simpa using hx))).apart t5 t35 (fun ad e hm => by have h1 := hS _ hm; have h2 := (HTLT.out ad e).1; omega))
              have ask5 := t5.obj hask (fun hm => by have h1 := hS _ hm; have h2 := HTW.out.own.t.size; omega)
              have h := (two5.tch t6).apps2 ⟨⟨4, key, [], 0⟩, ka, kc⟩ ⟨⟨5, [], [], 0⟩, none, 0⟩ hk3 hb5 (by have := HAO.out.2; simp; omega) (t6.obj ask5 (by simp))
              exact h)
            simp only [List.length_reverse] at HRA HRB
            have HC1 := Lib.hid (fun w5 g5 c5 (hR : RowV w3 w5 (some ⟨g5, 0, none⟩) c5 (A ++ [⟨⟨4, key, [], 0⟩, ka, kc⟩, ⟨⟨5, [], [], 0⟩, none, 0⟩])) => two_call hR rfl (fun x hx => (HAO.out.1 x hx).1) HAO.out.2 HKL.out (HTB.out.tch (HT3.out.trans hR.own.t)) hT1 hr1)
            have HC2 := Lib.hid (fun w5 g5 c5 (hR : RowV w3 w5 (some ⟨g5, 0, none⟩) c5 (A.reverse ++ [⟨⟨4, key, [], 0⟩, ka, kc⟩, ⟨⟨5, [], [], 0⟩, none, 0⟩])) => two_call hR (List.length_reverse) (fun x hx => (HAO.out.1 x (by simpa using hx)).1) HAO.out.2 HKL.out (HTB.out.tch (HT3.out.trans hR.own.t)) hT2 hr2)
            have HIL := Lib.hid hil
            have HND := Lib.hid hnd
            have HTLT2 := Lib.hid (fun (ad : Addr) (e : a2 = some ad) => (HTLT.out ad e).2)
            clear hlt hi hr HZ hk3 tal hask hb5 hT1 hT2 hnd hil hr1 hr2 HALT HTLT HBA HTW HON HR0
            go_wp2_with (at_builtin; refine wpList_append_run rfl (.tmp 56) (.tmp 57) 22 rfl (.slice a A.length c) (.slice (some ⟨wr.heap.size, 0, none⟩) 2 2) (by simp [Act.eval]) (by simp [Act.eval]) _ HRA.out ?_; rintro vv w5 ⟨g5, c5, rfl, n1, n2⟩; have HN1 := Lib.hid n1; have HN2 := Lib.hid n2; clear n1 n2)
            refine (HC1.out w5 g5 c5 HN1.out).mono ?_
            rintro e w6 ⟨g, oc, rfl, t, ia, iq, hto⟩
            have HT6 := Lib.hid t
            have HTO := Lib.hid hto
            have HRB2 := Lib.hid (HRB.out w5 w6 HN2.out HN1.out.own.t t)
            clear t hto HRB HC1 HRA
            go_wp2_with (at_builtin; refine wpList_append_run rfl (.tmp 60) (.tmp 61) 22 rfl (.slice a2 A.length c2) (.slice (some ⟨wr.heap.size, 0, none⟩) 2 2) (by simp [Act.eval]) (by simp [Act.eval]) _ HRB2.out ?_; rintro vv w7 ⟨g7, c7, rfl, n1, n2⟩; have HM1 := Lib.hid n1; have HM2 := Lib.hid n2; clear n1 n2)
            refine (HC2.out w7 g7 c7 HM1.out).mono ?_
            rintro e w8 ⟨g', oc', rfl, t, ia', iq', hto'⟩
            have HTF := Lib.hid ((HT3.out.trans HM1.out.own.t).trans t)
            obtain ⟨x0, x1, u0⟩ := HTO.out w8 (Value.slice a2 A.length c2).ownBlock.toList (HM2.out.trans (t.mono (fun k _ hk => by simp at hk))) (fun k hk => by
              have h2 := HN2.out.size
              have h3 : wr.heap.size < (wr.alloc (.cells #[.int .i64 4, .slice ka key.length kc, .string ⟨#[]⟩, .int .u64 0, .int .i64 5, .slice none 0 0, .string ⟨#[]⟩, .int .u64 0] 28)).heap.size := by simp
              cases a2 with
              | none => simp [Value.ownBlock] at hk
              | some ad => simp [Value.ownBlock] at hk; subst hk; have h1 := HTLT2.out ad rfl; omega)
            obtain ⟨y0, y1, u1⟩ := hto' w8 [] (Tch.refl _ _) (by simp)
            have HAL := Lib.hid (fun q => alike_same (w8.drewN q) ids ids ia ia' iq iq' (u0.tch ((Tch.refl _ _).drewN q)) (u1.tch ((Tch.refl _ _).drewN q)) (by have := HIL.out; have := HAO.out.2; omega) (by have := HIL.out; have := HAO.out.2; omega))
            simp only [decide_true] at HAL
            have d1 : (1 : Int) ≤ nd := HND.out
            clear t hto' u0 u1 HC2 HM1 HM2 HN1 HN2 HTO HRB2
            go_wp2_with fail
            go_quiet (first | (go_at_call 20; exact (HAL.out _).mono (fun e w' h => ⟨h.1, q_join h.2⟩)))
            all_goals (try go_wp2_with fail)
            go_ret
            exact ⟨rfl, HTF.out.drewN _⟩

end Go.Proofs.YtcolffccbmpndaaGreatDoor
