/- FnTrieGone, walked. -/
import Derived.Test.YtcolffccbmpndaaGreatDoorTrGp
namespace Go.Proofs.YtcolffccbmpndaaGreatDoor
open Go.RowKit Go.Deep
set_option maxRecDepth 100000

/-- Two steps more. -/
theorem RowV.app2 {w0 w : World} {a : Option Addr} {c : Nat} {V : List StepV} (h : RowV w0 w a c V) (x y : StepV) (hx : By w0 x.s.bytes x.a x.c) (hy : By w0 y.s.bytes y.a y.c) (hl : V.length ≤ 10000) :
    ∃ v' w', (Builtin.append_ #[22, 22] 22 #[.slice a V.length c, .slice (some ⟨w.heap.size, 0, none⟩) 2 2]).run Tryz.prog (w.alloc (.cells #[.int .i64 x.s.kind, .slice x.a x.s.bytes.length x.c, .string (bs x.s.holes), .int .u64 x.s.id, .int .i64 y.s.kind, .slice y.a y.s.bytes.length y.c, .string (bs y.s.holes), .int .u64 y.s.id] 28)) = .ok v' w' ∧ ∃ g c', v' = .slice (some ⟨g, 0, none⟩) (V.length + 2) c' ∧ RowV w0 w' (some ⟨g, 0, none⟩) c' (V ++ [x, y]) := by
  obtain ⟨i0, hinf, hz0, hz1, hz2⟩ := info_parts Tryz.infoStep
  have hN := heap_alloc_new w (.cells #[.int .i64 x.s.kind, .slice x.a x.s.bytes.length x.c, .string (bs x.s.holes), .int .u64 x.s.id, .int .i64 y.s.kind, .slice y.a y.s.bytes.length y.c, .string (bs y.s.holes), .int .u64 y.s.id] 28)
  obtain ⟨v', w', hr, ho, ht⟩ := own_apps (ty := 22) Tryz.underlying22 hinf hz0 hz1 hz2 rfl (by decide) (by decide) ⟨w.heap.size, 0, none⟩ 2 2 ([x, y].flatMap stC) (h.own.tch ((Tch.refl [] w).alloc _)) (by omega) rfl (fun j u hu => by
    rw [addr_add0, cell_of_row _ _ j _ _ _ hN]
    simpa [stC] using hu) (by intro u hu; simp [stC] at hu; rcases hu with rfl | rfl | rfl | rfl | rfl | rfl | rfl | rfl <;> rfl)
  have h2 := ho.row
  obtain ⟨g, cap, e, -⟩ := ownsRow_value h2 (by omega)
  subst e
  refine ⟨_, w', hr, g, cap, rfl, ⟨?_, fun z hz => ?_⟩⟩
  · rw [List.length_append, List.flatMap_append]
    exact ho
  · rcases List.mem_append.1 hz with hz | hz
    · exact h.by0 z hz
    · simp only [List.mem_cons, List.not_mem_nil, or_false] at hz
      rcases hz with rfl | rfl
      · exact hx
      · exact hy

def delV (x : StepV) : StepV := { x with s := delOf x.s }
theorem okS_of {L : List StepD} (hs : smallS L) (ho : ∀ i, i < L.length → stepOk (L.getD i default)) : ∀ s ∈ L, okS s ∧ (s.kind = 0 ∨ s.kind = 1 → isAddD s) := by
  intro s hm
  obtain ⟨i, hi, rfl⟩ := List.getElem_of_mem hm
  have e : L.getD i default = L[i] := by simp [List.getD, List.getElem?_eq_getElem hi]
  have h1 := hs.2 i hi
  have h2 := ho i hi
  rw [e] at h1 h2
  refine ⟨⟨h1.1, by omega, fun h => by obtain ⟨n, f, g1, g2, g3⟩ := h2.2.2 h; exact g3⟩, fun h => ⟨h, ?_⟩⟩
  unfold holesD
  split
  · rename_i h13
    obtain ⟨n, f, g1, -⟩ := h2.2.2 h13
    rw [g1]; simp
  · simp
theorem okS_del {s : StepD} (h : okS s) (ha : isAddD s) : okS (delOf s) :=
  ⟨h.bytes, h.holes, fun h13 => h.small (by
    have e : (delOf s).kind = s.kind + 2 := rfl
    rw [e] at h13
    rcases ha.1 with e1 | e1
    · rw [e1] at h13; simp at h13
    · exact .inl e1)⟩
theorem okS_get (key : List Int) (id : Int) (h : key.length ≤ 20000) (k : Int) (hk : k ≠ 1 ∧ k ≠ 3) : okS ⟨k, key, [], id⟩ := ⟨h, by simp, fun h13 => by simp only [] at h13; rcases h13 with h13 | h13; exact absurd h13 hk.1; exact absurd h13 hk.2⟩
theorem getD_all {L : List StepD} (h : ∀ s ∈ L, okS s) : ∀ i, i < L.length → okS (L.getD i default) := fun i hi => by
  have e : L.getD i default = L[i] := by simp [List.getD, List.getElem?_eq_getElem hi]
  rw [e]; exact h _ (List.getElem_mem hi)

/-- The guards of the laws over steps and a key. -/
structure Guarded (L : List StepD) : Prop where
  small : smallS L
  ok : ∀ i, i < L.length → stepOk (L.getD i default)

theorem gone_call {w3 w7 : World} {A : List StepV} {key : List Int} {ka : Option Addr} {kc g7 c7 : Nat} (hR : RowV w3 w7 (some ⟨g7, 0, none⟩) c7 (A ++ A.map delV ++ [⟨⟨4, key, [], 0⟩, ka, kc⟩, ⟨⟨5, [], [], 0⟩, none, 0⟩])) (hA : ∀ x ∈ A, okS x.s ∧ isAddD x.s) (hl : A.length ≤ 1000) (hk : key.length ≤ 10000) (hT : Tabs w7) :
    Calls Tryz.prog 16 #[.slice (some ⟨g7, 0, none⟩) (2 * A.length + 2) c7] w7 fun e w' => ∃ g oc, e = .returned (.slice (some ⟨g, 0, none⟩) (2 * A.length + 2) oc) ∧ Tch [] w7 w' ∧ (∃ a q, w'.cell? ⟨g, 2 * A.length * 4 + 1, none⟩ = some (.slice a 0 q)) ∧ w'.cell? ⟨g, (2 * A.length + 1) * 4 + 3, none⟩ = some (.int .i64 1) := by
  have hLL : (A ++ A.map delV ++ [⟨⟨4, key, [], 0⟩, ka, kc⟩, ⟨⟨5, [], [], 0⟩, none, 0⟩] : List StepV).map (·.s) = (A.map (·.s)) ++ (A.map (·.s)).map delOf ++ [⟨4, key, [], 0⟩, ⟨5, [], [], 0⟩] := by
    simp [List.map_map, Function.comp_def, delV]
  have hst := hR.steps
  rw [hLL] at hst
  obtain ⟨T, hT1, hT2⟩ := gone_run (A.map (·.s)) key (fun s hs => by
    obtain ⟨x, hx, rfl⟩ := List.mem_map.1 hs
    exact (hA x hx).2)
  rw [List.length_map] at hT1
  have hlen : ((A.map (·.s)) ++ (A.map (·.s)).map delOf ++ [⟨4, key, [], 0⟩, ⟨5, [], [], 0⟩] : List StepD).length = 2 * A.length + 2 := by simp; omega
  have hrun := runTrie_any _ (some ⟨g7, 0, none⟩) c7 w7 (by rw [hlen]; omega) hst (getD_all (fun s hs => by
    rcases List.mem_append.1 hs with hs | hs
    · rcases List.mem_append.1 hs with hs | hs
      · obtain ⟨x, hx, rfl⟩ := List.mem_map.1 hs
        exact (hA x hx).1
      · obtain ⟨s1, hs1, rfl⟩ := List.mem_map.1 hs
        obtain ⟨x, hx, rfl⟩ := List.mem_map.1 hs1
        exact okS_del (hA x hx).1 (hA x hx).2
    · simp only [List.mem_cons, List.not_mem_nil, or_false] at hs
      rcases hs with rfl | rfl
      · exact okS_get key 0 (by omega) 4 (by decide)
      · exact okS_get [] 0 (by simp) 5 (by decide))) hT
  rw [hlen] at hrun
  refine hrun.mono ?_
  intro e w2 hE
  obtain ⟨g, oc, outs, rfl, ho, t, hc⟩ := told_of hE (by rw [hlen]; omega)
  rw [hlen]
  rw [hT2] at ho
  obtain ⟨P, R, rfl, hP, hR2⟩ := List.map_eq_append_iff.1 ho
  have hPl : P.length = 2 * A.length := by rw [← hT1, ← hP, List.length_map]
  rcases R with _ | ⟨p0, _ | ⟨p1, _ | ⟨p2, r⟩⟩⟩ <;> simp at hR2
  obtain ⟨o0, o1⟩ := hR2
  obtain ⟨c0, a0, q0, e0, -⟩ := hc (2 * A.length) p0 (by rw [List.getElem?_append_right (by omega), hPl]; simp)
  obtain ⟨c1, -⟩ := hc (2 * A.length + 1) p1 (by rw [List.getElem?_append_right (by omega), hPl]; simp)
  refine ⟨g, oc, rfl, t, ⟨a0, q0, ?_⟩, ?_⟩
  · rw [c0 1 (by omega)]
    simp only [tolC, e0, o0, List.getElem?_cons_succ, List.getElem?_cons_zero, List.length_nil]
  · rw [c1 3 (by omega)]
    simp only [tolC, o1, List.getElem?_cons_succ, List.getElem?_cons_zero]

set_option maxHeartbeats 8000000 in
theorem gone_any (w : World) (L : List StepD) (sa : Option Addr) (cz : Nat) (hst : StepsAt w sa L) (key : List Int) (ka : Option Addr) (kc : Nat) (hk : By w key ka kc) (ht : Tabs w) :
    Calls Tryz.prog 3 #[.slice sa L.length cz, .slice ka key.length kc] w fun e w' => e = .returned (.bool true) ∧ Tch [] w w' := by
  have HF := Lib.hid (fits14_any w L sa cz hst)
  have HST := Lib.hid (fun w' (t : Tch [] w w') => hst.tch t)
  have HK := Lib.hid hk
  have HTB := Lib.hid ht
  clear hst hk ht
  go_enter Tryz.func3, Tryz.ntmps3
  go_wp2_with fail
  refine HF.out.mono ?_
  rintro e w1 ⟨b, rfl, t, hb⟩
  have HT1 := Lib.hid t
  have HB := Lib.hid hb
  clear t hb
  cases b with
  | false =>
    go_wp2_with fail
    go_ret
    exact ⟨rfl, HT1.out⟩
  | true =>
    by_cases hk0 : key.length ≤ 2147483647
    rotate_left
    · have g1 : (2147483647 : Int) < (key.length : Int) := by omega
      clear hk0
      go_wp2_with fail
      go_ret
      exact ⟨rfl, HT1.out⟩
    have g1 : (key.length : Int) ≤ 2147483647 := by omega
    have d1 : decide ((2147483647 : Int) < (key.length : Int)) = false := decide_eq_false (by omega)
    have HSM := Lib.hid (smallTrie_any w1 L sa cz (HST.out w1 HT1.out) (HB.out (by simp)))
    clear hk0
    go_wp2_with fail
    clear d1
    refine HSM.out.mono ?_
    rintro e w2 ⟨b, rfl, t, hb⟩
    have HT2 := Lib.hid (HT1.out.trans t)
    have HB2 := Lib.hid hb
    clear t hb
    cases b with
    | false =>
      go_wp2_with fail
      go_ret
      exact ⟨rfl, HT2.out⟩
    | true =>
      by_cases hk1 : key.length ≤ 10000
      rotate_left
      · have g2 : (10000 : Int) < (key.length : Int) := by omega
        clear hk1
        go_wp2_with fail
        go_ret
        exact ⟨rfl, HT2.out⟩
      have g2 : (key.length : Int) ≤ 10000 := by omega
      have d2 : decide ((10000 : Int) < (key.length : Int)) = false := decide_eq_false (by omega)
      have HKL := Lib.hid hk1
      have HTS := Lib.hid (trieSteps_any w2 L sa cz (HST.out w2 HT2.out) (HB2.out (by simp)))
      clear hk1
      go_wp2_with fail
      clear d2
      refine HTS.out.mono ?_
      rintro e w3 ⟨b, rfl, t, hb⟩
      have HT3 := Lib.hid (HT2.out.trans t)
      have HB3 := Lib.hid hb
      clear t hb
      cases b with
      | false =>
        go_wp2_with fail
        go_ret
        exact ⟨rfl, HT3.out⟩
      | true =>
        have HG : Hid (Guarded L) := Lib.hid ⟨HB2.out (by simp), HB3.out (by simp)⟩
        clear HB HB2 HB3 HSM HTS
        obtain ⟨V, hV, hVA⟩ := (HST.out w3 HT3.out).v
        have hvl : L.length = V.length := by rw [← hV, List.length_map]
        rw [hvl]
        have HAD := Lib.hid (adds_any w3 V sa cz hVA (by rw [← hvl]; exact HG.out.small.1))
        have HVL := Lib.hid hV
        have HLN : Hid (V.length ≤ 1000) := Lib.hid (by rw [← hvl]; exact HG.out.small.1)
        clear hvl hV hVA
        go_wp2_with fail
        refine HAD.out.mono ?_
        rintro e w4 ⟨a, c, rfl, hR⟩
        obtain ⟨A, hA⟩ : ∃ A, A = V.filter isAdd := ⟨_, rfl⟩
        have HAO : Hid ((∀ x ∈ A, okS x.s ∧ isAddD x.s) ∧ A.length ≤ 1000) := Lib.hid (by
          refine ⟨fun x hx => ?_, by rw [hA]; exact Nat.le_trans (List.length_filter_le _ _) HLN.out⟩
          rw [hA] at hx
          obtain ⟨h1, h2⟩ := List.mem_filter.1 hx
          have h3 := okS_of HG.out.small HG.out.ok x.s (by rw [← HVL.out]; exact List.mem_map.2 ⟨x, h1, rfl⟩)
          refine ⟨h3.1, h3.2 ?_⟩
          unfold isAdd at h2
          simpa using h2)
        rw [← hA] at hR ⊢
        have HR0 := Lib.hid hR
        have HT4 := Lib.hid (HT3.out.trans hR.own.t)
        have hal : (A.length : Int) ≤ 1000 := by have := HAO.out.2; omega
        clear hR hA HAD
        go_wp2_with fail
        go_loopg [5, 36] A.length (fun nn s5 s36 wr => ∃ (i n : Nat) (a' : Option Addr) (c' : Nat), i ≤ A.length ∧ nn = A.length - i ∧ s5 = .slice a' n c' ∧ s36 = .int .i64 i ∧ Hid (RowV w3 wr a' c' (A ++ (A.take i).map delV) ∧ n = A.length + i))
        case atStart => exact ⟨0, A.length, a, c, Nat.zero_le _, rfl, rfl, rfl, by simpa using HR0.out, by simp⟩
        case round =>
          obtain ⟨i, n, a', c', hi, rfl, rfl, rfl, HZ⟩ := hrel
          rename World => wr
          have HNE := Lib.hid HZ.out.2
          by_cases hlt : i < A.length
          · have HLT := Lib.hid hlt
            have hx : (A ++ (A.take i).map delV)[i]? = some A[i] := by rw [List.getElem?_append_left hlt]; exact List.getElem?_eq_getElem hlt
            have htk : A ++ (A.take (i + 1)).map delV = (A ++ (A.take i).map delV) ++ [delV A[i]] := by
              rw [List.take_succ_eq_append_getElem hlt, List.map_append, List.append_assoc]; rfl
            have hok := HAO.out.1 A[i] (List.getElem_mem hlt)
            have hb0 := HR0.out.by0 A[i] (List.getElem_mem hlt)
            obtain ⟨g, rfl, hg, hc⟩ := HZ.out.1.at_ hx
            have x0 := hc 0 (by omega)
            have x1 := hc 1 (by omega)
            have x2 := hc 2 (by omega)
            have x3 := hc 3 (by omega)
            generalize A[i] = x at *
            have hin : (i : Int) < (n : Int) := by have := HNE.out; omega
            have hnI : (n : Int) ≤ 2000 := by have := HNE.out; have := HAO.out.2; omega
            have HTK := Lib.hid htk
            have HRA := Lib.hid (fun (W : World) (hsz : Nat) (e : W.heap.size = hsz) (t : Tch [] wr W) => by
              subst e
              exact (HZ.out.1.tch t).app (delV x) hb0 (by simp; have := HAO.out.2; omega))
            have hlen : (A ++ (A.take i).map delV).length = n := by rw [HNE.out]; simp; omega
            rw [hlen] at HRA
            obtain ⟨⟨kd, bytes, holes, id⟩, xa, xc⟩ := x
            have hkd : kd = 0 ∨ kd = 1 := hok.2.1
            simp only [stC, List.getElem?_cons_succ, List.getElem?_cons_zero, Nat.add_zero] at x0 x1 x2 x3
            simp only [delV, delOf] at HRA
            clear hlt hi hx htk hok hb0 hg hc hlen HZ
            rcases hkd with rfl | rfl
            · have HT0 := Lib.hid ((Tch.refl [] wr).alloc (.cells #[.int .i64 2, .slice xa bytes.length xc, .string (bs holes), .int .u64 id] 28))
              have hra := HRA.out _ (wr.heap.size + 1) (by simp) HT0.out
              rw [show ((0 : Int) + 2) = 2 from rfl] at hra
              have HRA1 := Lib.hid hra
              clear hra HRA
              go_wp2_with (at_builtin; refine wpList_append_run rfl (.tmp 47) (.tmp 49) 22 rfl (.slice (some ⟨g, 0, none⟩) n c') (.slice (some ⟨wr.heap.size + 1, 0, none⟩) 1 1) (by simp [Act.eval]) (by simp [Act.eval]) _ (by simpa using HRA1.out) ?_; rintro vv w7 ⟨g7, c7, rfl, n1⟩; have HN1 := Lib.hid n1; clear n1)
              go_roundg (A.length - (i + 1))
              case rel => exact ⟨i + 1, n + 1, _, _, HLT.out, rfl, rfl, by go_num, by rw [HTK.out]; simpa [delV, delOf] using HN1.out, by have := HNE.out; omega⟩
              case measure => have := HLT.out; omega
            · have HT0 := Lib.hid ((Tch.refl [] wr).alloc (.cells #[.int .i64 3, .slice xa bytes.length xc, .string (bs holes), .int .u64 id] 28))
              have hra := HRA.out _ (wr.heap.size + 1) (by simp) HT0.out
              rw [show ((1 : Int) + 2) = 3 from rfl] at hra
              have HRA1 := Lib.hid hra
              clear hra HRA
              go_wp2_with (at_builtin; refine wpList_append_run rfl (.tmp 47) (.tmp 49) 22 rfl (.slice (some ⟨g, 0, none⟩) n c') (.slice (some ⟨wr.heap.size + 1, 0, none⟩) 1 1) (by simp [Act.eval]) (by simp [Act.eval]) _ (by simpa using HRA1.out) ?_; rintro vv w7 ⟨g7, c7, rfl, n1⟩; have HN1 := Lib.hid n1; clear n1)
              go_roundg (A.length - (i + 1))
              case rel => exact ⟨i + 1, n + 1, _, _, HLT.out, rfl, rfl, by go_num, by rw [HTK.out]; simpa [delV, delOf] using HN1.out, by have := HNE.out; omega⟩
              case measure => have := HLT.out; omega
          · obtain rfl : i = A.length := by omega
            have hr := HZ.out.1
            rw [List.take_length] at hr
            obtain rfl : n = 2 * A.length := by have := HNE.out; omega
            have hnn : 2 * A.length = (A ++ A.map delV).length := by simp; omega
            have hk3 := HK.out.tch HT3.out
            have HRA := Lib.hid (hr.app2 ⟨⟨4, key, [], 0⟩, ka, kc⟩ ⟨⟨5, [], [], 0⟩, none, 0⟩ hk3 ⟨Nat.le_refl _, fun _ => ⟨rfl, rfl⟩, fun ad hd => by simp at hd, by simp⟩ (by rw [← hnn]; have := HAO.out.2; omega))
            simp only [List.length_nil] at HRA
            rw [← hnn] at HRA
            have HCL := Lib.hid (fun w7 g7 c7 (hR : RowV w3 w7 (some ⟨g7, 0, none⟩) c7 (A ++ A.map delV ++ [⟨⟨4, key, [], 0⟩, ka, kc⟩, ⟨⟨5, [], [], 0⟩, none, 0⟩])) => gone_call hR HAO.out.1 HAO.out.2 HKL.out (HTB.out.tch (HT3.out.trans hR.own.t)))
            clear hlt hi hr hnn hk3 HZ
            go_wp2_with (at_builtin; refine wpList_append_run rfl (.tmp 52) (.tmp 56) 22 rfl (.slice a' (2 * A.length) c') (.slice (some ⟨wr.heap.size, 0, none⟩) 2 2) (by simp [Act.eval]) (by simp [Act.eval]) _ (by simpa using HRA.out) ?_; rintro vv w7 ⟨g7, c7, rfl, n1⟩; have HN1 := Lib.hid n1; clear n1)
            have hR7 : RowV w3 w7 (some ⟨g7, 0, none⟩) c7 (A ++ A.map delV ++ [⟨⟨4, key, [], 0⟩, ka, kc⟩, ⟨⟨5, [], [], 0⟩, none, 0⟩]) := by simpa using HN1.out
            have HT7 := Lib.hid (HT3.out.trans hR7.own.t)
            refine (HCL.out w7 g7 c7 hR7).mono ?_
            rintro e w8 ⟨g, oc, rfl, t, ⟨ia, iq, x1⟩, x2⟩
            have HTF := Lib.hid (HT7.out.trans t)
            clear hR7 t HCL HN1 HRA HNE
            go_wp2_with fail
            go_ret
            exact ⟨rfl, HTF.out⟩

end Go.Proofs.YtcolffccbmpndaaGreatDoor
