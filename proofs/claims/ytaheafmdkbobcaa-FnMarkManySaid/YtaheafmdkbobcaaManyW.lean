/- FnMarkMany returns true for every list of steps: indices that begin, or are done, together do so one after the other. No condition. -/
import Derived.Test.YtaheafmdkbobcaaRows
import Derived.Test.YtaheafmdkbobcaaManyR
import Derived.WalkKit
import Derived.ProofKit
import Derived.OpenShut
import Derived.ShutString
import Derived.Deep.CutBlock
namespace Go.Proofs.Ytaheafmdkbobcaa.fnMarkMany
open Go.ChangeShapes Go.WideShapes Go.ChangeAt Go.RowKit
set_option maxRecDepth 100000

theorem own : ownKnob Try.prog.godebug = none := by kernel_rfl

set_option maxHeartbeats 2000000 in
theorem walk (L : List Stp) (sa : Option Addr) (cz : Nat) (w : World) (hst : StepsAt w sa L) (hu : ∀ i, i < L.length → (L.getD i default).idx ≤ MAX ∧ ∀ z ∈ (L.getD i default).many, z ≤ MAX) :
    Calls Try.prog 3 #[.slice sa L.length cz] w fun e w' => e = .returned (.bool true) ∧ Tch [] w w' := by
  have HC := Lib.hid (fits_any L sa cz w hst)
  have HST := Lib.hid hst
  have HU := Lib.hid hu
  clear hst hu
  go_enter Try.func3, Try.ntmps3
  go_wp2_with (go_at_call 12; refine HC.out.mono ?_; rintro e w1 ⟨b, rfl, h1, h2⟩; have H1 := Lib.hid h1; have H2 := Lib.hid h2; clear h1 h2; cases b)
  · go_ret; exact ⟨rfl, H2.out⟩
  have hst1 : StepsAt w1 sa L := (HST.out).tch H2.out
  have HC2 := Lib.hid (small_any L sa cz w1 hst1 (H1.out trivial))
  have HST1 := Lib.hid hst1
  clear hst1 HC HST H1
  go_wp2_with (go_at_call 13; refine HC2.out.mono ?_; rintro e w2 ⟨b, rfl, h1, h2⟩; have H1 := Lib.hid h1; have H3 := Lib.hid h2; clear h1 h2; cases b)
  · go_ret; exact ⟨rfl, H2.out.trans H3.out⟩
  have hst2 : StepsAt w2 sa L := (HST1.out).tch H3.out
  have hsm := H1.out trivial
  have HC3 := Lib.hid (srun_ans L sa cz w2 (by omega) (by omega) hst2 HU.out)
  have HST2 := Lib.hid hst2
  have HSM := Lib.hid hsm
  clear hst2 hsm HC2 HST1 H1
  go_wp2_with (go_at_call 14; refine HC3.out.mono ?_; rintro e w3 ⟨b, ov, rfl, h2, h1⟩; have H1 := Lib.hid h1; have H4 := Lib.hid h2; clear h1 h2; cases b)
  · go_ret; exact ⟨rfl, (H2.out.trans H3.out).trans H4.out⟩
  obtain ⟨hok, oa, oc, outs, rfl, ho⟩ := H1.out trivial
  have hst3 : StepsAt w3 sa L := (HST2.out).tch H4.out
  have HLL := Lib.hid (show L.length ≤ 1000 from HSM.out.1)
  have HWT := Lib.hid (show wt L ≤ 2000 from HSM.out.2)
  have HOK := Lib.hid hok
  have HT3 := Lib.hid ((H2.out.trans H3.out).trans H4.out)
  have HS3 := Lib.hid hst3
  have hl1 := HLL.out
  have HM0 := Lib.hid (ManyRow.start w3)
  clear hok hst3 HC3 HST2 H1 HSM ho H2 H3 H4
  go_wp2_with fail
  go_loopg [5, 6, 32] L.length (fun n s5 s6 s32 wr => ∃ (k g c ge ce : Nat) (Ls : List (Stp × Value)), k ≤ L.length ∧ n = L.length - k ∧ s32 = .int .i64 k ∧ s5 = .slice (some ⟨g, 0, none⟩) Ls.length c ∧ s6 = .slice (some ⟨ge, 0, none⟩) k ce ∧ Hid (ManyRow w3 wr g c Ls ge ce ((List.range k).map (endOf L)) ∧ Ls.map Prod.fst = FL (L.take k)))
  case atStart => exact ⟨0, _, _, _, _, [], Nat.zero_le _, rfl, rfl, rfl, rfl, HM0.out, rfl⟩
  case round =>
    obtain ⟨k, g, c, ge, ce, Ls, hk, rfl, rfl, rfl, rfl, HR⟩ := hrel
    obtain ⟨wo, rfl⟩ : ∃ wo : World, wo = wr := ⟨_, rfl⟩
    clear HM0
    by_cases hlt : k < L.length
    · have hlt2 : (k : Int) < L.length := by omega
      obtain ⟨a, rfl, hsa0⟩ := HS3.out k hlt
      have T := HR.out.1.t
      have hsa := hsa0.tch T
      have hok1 := HOK.out k hlt
      have hFL := FL_len_succ hlt
      have hlen : Ls.length = (FL (L.take k)).length := by rw [← HR.out.2, List.length_map]
      have hle1 := FL_le L (k + 1)
      have hle2 := len_wt (FL L)
      have hle3 := FL_wt L
      have hle4 := HWT.out
      generalize hp : L.getD k default = p at *
      obtain ⟨kd, ix, zs⟩ := p
      obtain ⟨am, cm, m1, m2, m3⟩ := hsa.many
      obtain ⟨am', cm', n1, n2, n3⟩ := hsa0.many
      have k0 : wo.cell? (a.add (k * 3)) = some (.int .i64 kd) := hsa.kind
      have k1 : wo.cell? ⟨(a.add (k * 3)).block, (a.add (k * 3)).off + 1, none⟩ = some (.int .u64 ix) := hsa.idx
      have k2 : wo.cell? ⟨(a.add (k * 3)).block, (a.add (k * 3)).off + 2, none⟩ = some (.slice am zs.length cm) := m1
      have kl := hsa.lt
      obtain ⟨rfl, rfl⟩ : am = am' ∧ cm = cm' := by
        have e := T.cell (p := (a.add (k * 3)).add 2) (by rw [add_block]; exact hsa0.lt) (by simp)
        rw [n1] at e
        have m1' : wo.cell? ((a.add (k * 3)).add 2) = some (.slice am zs.length cm) := m1
        rw [m1'] at e
        simpa using e
      have hmv : MvAt w3 zs (.slice am zs.length cm) := ⟨am, cm, rfl, n2, n3⟩
      have hlk : (FL (L.take k)).length ≤ 2000 := by have := FL_le L k; omega
      have hl5 : Ls.length ≤ 2000 := by omega
      have htb : Tch [] wo (wo.alloc (.cells #[.int .i64 kd, .int .u64 ix, .slice am zs.length cm] 31)) := (Tch.refl _ _).alloc _
      have HRB := Lib.hid (HR.out.1.tch htb)
      have HPZ := Lib.hid hok1
      have HMV := Lib.hid hmv
      have HFL := Lib.hid hFL
      have HP := Lib.hid hp
      have M3 := Lib.hid m3
      have M2 := Lib.hid m2
      have hes : ((List.range k).map (endOf L)).length = k := by simp
      have HES := Lib.hid hes
      by_cases hk13 : kd ≠ 1 ∧ kd ≠ 3
      · have t0 : (kd == 1) = false := by simpa using hk13.1
        have t1 : (kd == 3) = false := by simpa using hk13.2
        have hfl : flat ⟨kd, ix, zs⟩ = [⟨kd, ix, zs⟩] := by unfold flat; rw [if_neg (by simp only; omega)]
        have HE := Lib.hid (show endOf L k = Ls.length by unfold endOf; rw [hFL, hfl, List.length_append, hlen]; simp)
        have HA := Lib.hid (HRB.out.push (by omega) kd ix zs _ hmv 22 (wo.heap.size + 1) (by simp))
        have HFF := Lib.hid (show Ls.map Prod.fst ++ [(⟨kd, ix, zs⟩ : Stp)] = FL (L.take (k + 1)) by rw [hFL, hfl, HR.out.2])
        clear hk13 hfl hFL hlen hle1 hle2 hle3 hle4 hp m1 m2 m3 n1 n2 n3 hsa hsa0 T htb hmv hok1 hlk hes
        go_wp2_with (first | (at_builtin; refine wpList_append_run rfl (.tmp 38) (.tmp 40) 22 rfl (.slice (some ⟨g, 0, none⟩) Ls.length c) (.slice (some ⟨wo.heap.size + 1, 0, none⟩) 1 1) (by simp [Act.eval]) (by simp [Act.eval]) _ HA.out ?_; rintro vv w5 ⟨g', c', rfl, q1, q2, q3⟩; have HQ := Lib.hid q1; have HB := Lib.hid (q1.pushE (by rw [HES.out]; omega) Ls.length 27 w5.heap.size rfl); rw [HES.out] at HB; clear q1 q2 q3) | (at_builtin; refine wpList_append_run rfl (.tmp 61) (.tmp 65) 27 rfl (.slice (some ⟨ge, 0, none⟩) k ce) (.slice (some ⟨w5.heap.size, 0, none⟩) 1 1) (by simp [Act.eval]) (by simp [Act.eval]) _ HB.out ?_; rintro vv w6 ⟨g2, c2, rfl, q1⟩; have HQ2 := Lib.hid q1; clear q1))
        go_roundg (L.length - (k + 1))
        case rel =>
          refine ⟨k + 1, g', c', g2, c2, Ls ++ [(⟨kd, ix, zs⟩, .slice am zs.length cm)], by omega, rfl, by go_num, by rw [List.length_append]; rfl, rfl, ?_, by rw [List.map_append]; exact HFF.out⟩
          rw [List.range_succ, List.map_append, List.map_cons, List.map_nil, HE.out]
          exact HQ2.out
        case measure => omega
      · have hk2 : kd = 1 ∨ kd = 3 := by omega
        have hzp : 0 < zs.length := by
          rcases hok1 with ⟨h, _⟩ | ⟨_, h, _⟩ | ⟨h, _⟩ | ⟨_, h, _⟩ | h | ⟨h, _⟩
          · exact absurd (show kd = 0 from h) (by omega)
          · exact h
          · exact absurd (show kd = 2 from h) (by omega)
          · exact h
          · exact absurd (show kd = 4 from h) (by omega)
          · exact absurd (show kd = 5 from h) (by omega)
        have hfl : flat ⟨kd, ix, zs⟩ = zs.map (fun x => (⟨kd - 1, x, []⟩ : Stp)) := by unfold flat; rw [if_pos hk2]
        have hfn : (FL (L.take (k + 1))).length = Ls.length + zs.length := by rw [hFL, hfl, List.length_append, List.length_map, hlen]
        have hz5 : zs.length ≤ 2000 := by omega
        have HFN := Lib.hid hfn
        have HFE := Lib.hid hfl
        have HLN := Lib.hid hlen
        have HBX := Lib.hid (heap_alloc_new wo (.cells #[.int .i64 kd, .int .u64 ix, .slice am zs.length cm] 31))
        have hgl := own_lt HR.out.1.srow (k := g) rfl
        clear hk13 hfl hFL hlen hle1 hle2 hle3 hle4 hp m1 m2 m3 n1 n2 n3 hsa hsa0 T hmv hok1 hlk hes hfn
        rcases hk2 with rfl | rfl
        · go_wp2_with fail
          go_loopg [5, 48] zs.length (fun n s5 s48 wr => ∃ (j g c : Nat) (Lj : List (Stp × Value)), j ≤ zs.length ∧ n = zs.length - j ∧ s48 = .int .i64 j ∧ s5 = .slice (some ⟨g, 0, none⟩) Lj.length c ∧ Lj.length = Ls.length + j ∧ Hid (ManyRow w3 wr g c Lj ge ce ((List.range k).map (endOf L)) ∧ Lj.map Prod.fst = FL (L.take k) ++ (zs.take j).map (fun x => (⟨0, x, []⟩ : Stp)) ∧ wr.heap[wo.heap.size]? = some (.cells #[.int .i64 1, .int .u64 ix, .slice am zs.length cm] 31 (0, 0)) ∧ g ≠ wo.heap.size ∧ wo.heap.size < wr.heap.size))
          case atStart => exact ⟨0, _, _, Ls, Nat.zero_le _, rfl, rfl, rfl, rfl, HRB.out, by rw [HR.out.2]; simp, HBX.out, by omega, by simp⟩
          case round =>
            obtain ⟨j, gj, cj, Lj, hj, rfl, rfl, rfl, hlj, HJ⟩ := hrel
            obtain ⟨hmr, -, hbx, hgn, hws⟩ := HJ.out
            have hl9 : Lj.length ≤ 4000 := by omega
            have HLJ := Lib.hid hlj
            clear hlj
            have b0 : wr.cell? ⟨wo.heap.size, 0, none⟩ = some (.int .i64 1) := by rw [cell_of_row wr _ _ _ 31 (0, 0) hbx]; rfl
            have HBJ := Lib.hid hbx
            clear k0 k1 k2 hbx
            by_cases hjl : j < zs.length
            · have hjl2 : (j : Int) < zs.length := by omega
              obtain ⟨ad, rfl⟩ : ∃ ad, am = some ad := by
                cases am with
                | none => have := (M2.out rfl).2; omega
                | some ad => exact ⟨ad, rfl⟩
              have hzc : wr.cell? (ad.add j) = some (.int .u64 (zs.getD j 0)) := by
                obtain ⟨am9, cm9, e9, -, h9⟩ := HMV.out
                simp only [Value.slice.injEq, true_and] at e9
                obtain ⟨rfl, rfl⟩ := e9
                obtain ⟨p1, p2⟩ := h9 ad rfl j hjl
                rw [hmr.t.cell (by rw [add_block]; exact p1) (by simp)]
                exact p2
              have HTK := Lib.hid (take_getD zs 0 hjl)
              generalize zs.getD j 0 = z at *
              have HA := Lib.hid (hmr.push (by omega) 0 z [] _ (MvAt.nil w3) 22 wr.heap.size rfl)
              clear hjl hmr
              go_wp2_with (at_builtin; refine wpList_append_run rfl (.tmp 52) (.tmp 58) 22 rfl (.slice (some ⟨gj, 0, none⟩) Lj.length cj) (.slice (some ⟨wr.heap.size, 0, none⟩) 1 1) (by simp [Act.eval]) (by simp [Act.eval]) _ HA.out ?_; rintro vv w5 ⟨g', c', rfl, q1, q2, q3⟩; have HQ := Lib.hid q1; have HQ2 := Lib.hid q2; have HQ3 := Lib.hid q3; clear q1 q2 q3)
              go_roundg (zs.length - (j + 1))
              case rel =>
                refine ⟨j + 1, g', c', Lj ++ [(⟨0, z, []⟩, .slice none 0 0)], by omega, rfl, by go_num, by rw [List.length_append]; rfl, by have := HLJ.out; rw [List.length_append]; simp; omega, HQ.out, ?_, HQ2.out.obj HBJ.out (by simpa using Ne.symm hgn), ?_, ?_⟩
                · rw [List.map_append, HJ.out.2.1, HTK.out, List.map_append, List.append_assoc]; rfl
                · rcases HQ3.out with e | e
                  · rw [e]; exact hgn
                  · omega
                · have := HQ2.out.size; omega
              case measure => omega
            · obtain rfl : j = zs.length := by omega
              obtain ⟨m, hm⟩ : ∃ m, Lj.length = m + 1 := ⟨Lj.length - 1, by have := HLJ.out; omega⟩
              have HE := Lib.hid (show endOf L k = m by unfold endOf; rw [HFN.out]; have := HLJ.out; omega)
              have HFF := Lib.hid (show Lj.map Prod.fst = FL (L.take (k + 1)) by rw [HJ.out.2.1, List.take_length, HFL.out, HFE.out]; rfl)
              have HB := Lib.hid (hmr.pushE (by rw [HES.out]; omega) m 27 wr.heap.size rfl)
              rw [HES.out] at HB
              have HML := Lib.hid hm
              have hm4 : m ≤ 4000 := by omega
              rw [hm]
              clear hjl hj hmr hm b0
              go_wp2_with (at_builtin; refine wpList_append_run rfl (.tmp 61) (.tmp 65) 27 rfl (.slice (some ⟨ge, 0, none⟩) k ce) (.slice (some ⟨wr.heap.size, 0, none⟩) 1 1) (by simp [Act.eval]) (by simp [Act.eval]) _ HB.out ?_; rintro vv w6 ⟨g2, c2, rfl, q1⟩; have HQ2 := Lib.hid q1; clear q1)
              go_roundg (L.length - (k + 1))
              case rel =>
                refine ⟨k + 1, gj, cj, g2, c2, Lj, by omega, rfl, by go_num, by rw [HML.out], rfl, ?_, HFF.out⟩
                rw [List.range_succ, List.map_append, List.map_cons, List.map_nil, HE.out]
                exact HQ2.out
              case measure => omega
        · go_wp2_with fail
          go_loopg [5, 48] zs.length (fun n s5 s48 wr => ∃ (j g c : Nat) (Lj : List (Stp × Value)), j ≤ zs.length ∧ n = zs.length - j ∧ s48 = .int .i64 j ∧ s5 = .slice (some ⟨g, 0, none⟩) Lj.length c ∧ Lj.length = Ls.length + j ∧ Hid (ManyRow w3 wr g c Lj ge ce ((List.range k).map (endOf L)) ∧ Lj.map Prod.fst = FL (L.take k) ++ (zs.take j).map (fun x => (⟨2, x, []⟩ : Stp)) ∧ wr.heap[wo.heap.size]? = some (.cells #[.int .i64 3, .int .u64 ix, .slice am zs.length cm] 31 (0, 0)) ∧ g ≠ wo.heap.size ∧ wo.heap.size < wr.heap.size))
          case atStart => exact ⟨0, _, _, Ls, Nat.zero_le _, rfl, rfl, rfl, rfl, HRB.out, by rw [HR.out.2]; simp, HBX.out, by omega, by simp⟩
          case round =>
            obtain ⟨j, gj, cj, Lj, hj, rfl, rfl, rfl, hlj, HJ⟩ := hrel
            obtain ⟨hmr, -, hbx, hgn, hws⟩ := HJ.out
            have hl9 : Lj.length ≤ 4000 := by omega
            have HLJ := Lib.hid hlj
            clear hlj
            have b0 : wr.cell? ⟨wo.heap.size, 0, none⟩ = some (.int .i64 3) := by rw [cell_of_row wr _ _ _ 31 (0, 0) hbx]; rfl
            have HBJ := Lib.hid hbx
            clear k0 k1 k2 hbx
            by_cases hjl : j < zs.length
            · have hjl2 : (j : Int) < zs.length := by omega
              obtain ⟨ad, rfl⟩ : ∃ ad, am = some ad := by
                cases am with
                | none => have := (M2.out rfl).2; omega
                | some ad => exact ⟨ad, rfl⟩
              have hzc : wr.cell? (ad.add j) = some (.int .u64 (zs.getD j 0)) := by
                obtain ⟨am9, cm9, e9, -, h9⟩ := HMV.out
                simp only [Value.slice.injEq, true_and] at e9
                obtain ⟨rfl, rfl⟩ := e9
                obtain ⟨p1, p2⟩ := h9 ad rfl j hjl
                rw [hmr.t.cell (by rw [add_block]; exact p1) (by simp)]
                exact p2
              have HTK := Lib.hid (take_getD zs 0 hjl)
              generalize zs.getD j 0 = z at *
              have HA := Lib.hid (hmr.push (by omega) 2 z [] _ (MvAt.nil w3) 22 wr.heap.size rfl)
              clear hjl hmr
              go_wp2_with (at_builtin; refine wpList_append_run rfl (.tmp 52) (.tmp 58) 22 rfl (.slice (some ⟨gj, 0, none⟩) Lj.length cj) (.slice (some ⟨wr.heap.size, 0, none⟩) 1 1) (by simp [Act.eval]) (by simp [Act.eval]) _ HA.out ?_; rintro vv w5 ⟨g', c', rfl, q1, q2, q3⟩; have HQ := Lib.hid q1; have HQ2 := Lib.hid q2; have HQ3 := Lib.hid q3; clear q1 q2 q3)
              go_roundg (zs.length - (j + 1))
              case rel =>
                refine ⟨j + 1, g', c', Lj ++ [(⟨2, z, []⟩, .slice none 0 0)], by omega, rfl, by go_num, by rw [List.length_append]; rfl, by have := HLJ.out; rw [List.length_append]; simp; omega, HQ.out, ?_, HQ2.out.obj HBJ.out (by simpa using Ne.symm hgn), ?_, ?_⟩
                · rw [List.map_append, HJ.out.2.1, HTK.out, List.map_append, List.append_assoc]; rfl
                · rcases HQ3.out with e | e
                  · rw [e]; exact hgn
                  · omega
                · have := HQ2.out.size; omega
              case measure => omega
            · obtain rfl : j = zs.length := by omega
              obtain ⟨m, hm⟩ : ∃ m, Lj.length = m + 1 := ⟨Lj.length - 1, by have := HLJ.out; omega⟩
              have HE := Lib.hid (show endOf L k = m by unfold endOf; rw [HFN.out]; have := HLJ.out; omega)
              have HFF := Lib.hid (show Lj.map Prod.fst = FL (L.take (k + 1)) by rw [HJ.out.2.1, List.take_length, HFL.out, HFE.out]; rfl)
              have HB := Lib.hid (hmr.pushE (by rw [HES.out]; omega) m 27 wr.heap.size rfl)
              rw [HES.out] at HB
              have HML := Lib.hid hm
              have hm4 : m ≤ 4000 := by omega
              rw [hm]
              clear hjl hj hmr hm b0
              go_wp2_with (at_builtin; refine wpList_append_run rfl (.tmp 61) (.tmp 65) 27 rfl (.slice (some ⟨ge, 0, none⟩) k ce) (.slice (some ⟨wr.heap.size, 0, none⟩) 1 1) (by simp [Act.eval]) (by simp [Act.eval]) _ HB.out ?_; rintro vv w6 ⟨g2, c2, rfl, q1⟩; have HQ2 := Lib.hid q1; clear q1)
              go_roundg (L.length - (k + 1))
              case rel =>
                refine ⟨k + 1, gj, cj, g2, c2, Lj, by omega, rfl, by go_num, by rw [HML.out], rfl, ?_, HFF.out⟩
                rw [List.range_succ, List.map_append, List.map_cons, List.map_nil, HE.out]
                exact HQ2.out
              case measure => omega
    · obtain rfl : k = L.length := by omega
      clear hlt hk
      have hrow := HR.out.1
      have hfl : Ls.map Prod.fst = FL L := by have := HR.out.2; rw [List.take_length] at this; exact this
      have hsl : Ls.length = (FL L).length := by rw [← hfl, List.length_map]
      have hst1 : StepsAt wo sa L := HS3.out.tch hrow.t
      have HC1 := Lib.hid (runMark_ans L sa cz wo HOK.out (by have := HWT.out; omega) (by omega) hst1)
      have hwf : wt (FL L) ≤ 2000 := Nat.le_trans (FL_wt L) HWT.out
      have hlf : (FL L).length ≤ 2000 := Nat.le_trans (len_wt _) hwf
      have HC2 := Lib.hid (fun (w' : World) (t : Tch [] wo w') => runMark_ans (FL L) (some ⟨g, 0, none⟩) c w' (FL_okRun HOK.out) (by omega) (by omega) (by have := (hrow.tch t).steps; rw [hfl] at this; exact this))
      have HROW := Lib.hid hrow
      rw [hsl]
      clear hst1 hrow hfl hsl hwf HR HS3
      go_wp2_with fail
      refine HC1.out.mono ?_
      rintro e w4 ⟨ga, gc, gouts, rfl, h1⟩
      have HG := Lib.hid h1
      clear h1
      have HC3 := Lib.hid (HC2.out w4 HG.out.out.t)
      clear HC1 HC2
      go_wp2_with (go_at_call 15; refine HC3.out.mono ?_; rintro e w5 ⟨gb, gd, bouts, rfl, h1⟩; have HG2 := Lib.hid h1; clear h1)
      have HGA := Lib.hid (HG.out.tch HG2.out.out.t)
      have HRE := Lib.hid (HROW.out.tch (HG.out.out.t.trans HG2.out.out.t))
      have HT5 := Lib.hid (HT3.out.trans HRE.out.t)
      clear HG HC3 HROW
      go_wp2_with fail
      go_loopg [86] L.length (fun n s86 wr => ∃ j : Nat, j ≤ L.length ∧ n = L.length - j ∧ s86 = .int .i64 j ∧ Hid (Tch [] w5 wr))
      case atStart => exact ⟨0, Nat.zero_le _, rfl, rfl, Lib.hid (Tch.refl _ _)⟩
      case round =>
        obtain ⟨j, hj, rfl, rfl, HT⟩ := hrel
        by_cases hlt : j < L.length
        · have hlt2 : (j : Int) < L.length := by omega
          obtain ⟨q1, q2⟩ := FL_tells HOK.out hlt
          have ce := (HRE.out.tch HT.out).endAt (i := j) (n := endOf L j) (by simp [List.getElem?_map, List.getElem?_range hlt])
          obtain ⟨g1, rfl, y0, y1, y2, y3, b1, c1, y4, -⟩ := (HGA.out.tch HT.out).at hlt
          obtain ⟨g2, rfl, z0, z1, z2, z3, b2, c2, z4, -⟩ := (HG2.out.tch HT.out).at q1
          rw [q2] at z0 z1 z2 z3 z4
          have q3 : (endOf L j : Int) < (FL L).length := by omega
          generalize tells L j = tr at *
          generalize endOf L j = m at *
          clear hlt q1 q2
          go_wp2_with fail
          go_quiet (fail)
          go_wp2_with fail
          go_roundg (L.length - (j + 1))
          case rel => exact ⟨j + 1, by omega, rfl, by go_num, Lib.hid (HT.out.drewN _)⟩
          case measure => omega
        · obtain rfl : j = L.length := by omega
          clear hlt hj
          go_wp2_with fail
          go_ret
          exact ⟨rfl, HT5.out.trans HT.out⟩

/-! ### The row's step -/
theorem lifted (os : Os) (started : os.Started) (H : Type) (enc : TypeId × Value → H) :
    ReturnsInHanded {} Try.checked os 3 .any (Rows.fnMarkManySpec.pre6 enc Try.prog Try.f3 Rows.fnMarkManyRow.domain false) (Rows.fnMarkManySpec.post enc Try.prog Try.f3 false true false false) := by
  refine returnsInHanded_of_change (C := Try.checked) own started (by kernel_rfl) Try.func3
    (ChangeSpec.witness6 (enc := enc) (C := Try.checked) false ⟨#[], #[.slice none 0 0], []⟩ 8 (by kernel_rfl) (by kernel_rfl) (by kernel_rfl) (by kernel_rfl)) ?_
  intro W base args ds gs before hval0 hW hcnd _
  have hval : ∀ (j : Nat) t v, Try.f3.params[j]? = some t → args[j]? = some v → Value.okWide Try.prog W .any base t v := hval0
  have hW' := hW
  obtain ⟨p, q, hA0, hV, rfl, hfz, hnd⟩ := hW
  have hA : DataW.TrodAll enc Try.prog W 0 (fun _ => true) true Try.f3.params.toList args.toList ds p := hA0
  have hA1 := hA
  rw [Try.params3] at hA1 hval
  obtain ⟨v0, vs0, d0, ds0, p0, q0, hargs, rfl, rfl, h0, r0⟩ := trodAll_cons hA1
  obtain ⟨rfl, rfl, rfl⟩ := trodAll_nil r0
  obtain rfl : args = #[v0] := by cases args; simp_all
  obtain ⟨rfl, rfl⟩ := trodVars_none hV
  obtain ⟨fuel, hf⟩ := h0
  obtain ⟨a0, l0, c0, rfl⟩ := okWide_slice Try.underlying22 (hval 0 22 v0 rfl rfl)
  obtain ⟨sa, L, cz, e, hst, hu⟩ := open_steps hf
  simp only [Value.cells, List.cons.injEq, and_true, Value.slice.injEq] at e
  obtain ⟨rfl, rfl, rfl⟩ := e
  refine (walk L a0 c0 W hst hu).mono fun e W' ⟨he, hg⟩ => ?_
  subst he
  simp only [List.append_nil] at hW' hA
  exact ⟨_, rfl, post_law rfl 4 Try.underlying4 rfl rfl Try.kids Try.full (by rw [Try.params3]; intro t ht; have ht := List.mem_singleton.1 ht; subst ht; exact (show 22 < Try.prog.types.size by rw [Try.tsize]; omega)) hW' hA hg⟩

theorem over : Rows.fnMarkManyRow.holds Try.pinned (OpenSpec.ofChange Rows.fnMarkManySpec) :=
  OpenClaim.holds_of_wide 3 Try.f3 rfl rfl rfl rfl rfl rfl rfl ⟨rfl, rfl, rfl, rfl, rfl⟩ rfl rfl rfl rfl rfl (by kernel_rfl) Try.func3 (by kernel_rfl)
    (of_decide_eq_true (by kernel_rfl)) (by unfold Func.isWrapper; first | (rw [if_pos (by decide +kernel)]; kernel_rfl) | (rw [if_neg (by decide +kernel)]; exact ⟨rfl, rfl⟩))
    (fun os started H enc _ => lifted os started H enc)

/-- The statement. -/
theorem proved : Rows.FnMarkManySaid :=
  over
#print axioms proved
end Go.Proofs.Ytaheafmdkbobcaa.fnMarkMany
