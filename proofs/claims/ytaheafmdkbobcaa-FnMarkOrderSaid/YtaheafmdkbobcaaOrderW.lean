/- FnMarkOrder returns true for every order: the mark is behind each step the number of indices that are done without a gap. No condition. -/
import Derived.Test.YtaheafmdkbobcaaRows
import Derived.Test.YtaheafmdkbobcaaOrderQ
import Derived.Test.YtaheafmdkbobcaaTwice
import Derived.WalkKit
import Derived.ProofKit
import Derived.OpenShut
import Derived.ShutString
import Derived.Deep.CutBlock
namespace Go.Proofs.Ytaheafmdkbobcaa.fnMarkOrder
open Go.ChangeShapes Go.WideShapes Go.ChangeAt Go.RowKit
set_option maxRecDepth 100000

theorem own : ownKnob Try.prog.godebug = none := by kernel_rfl

theorem runMark_n {L : List Stp} {n : Nat} (hn : n = L.length) (sa : Option Addr) (cz : Nat) (w : World) (hok : okRun L) (hwt : wt L ≤ 5000) (hll : L.length ≤ 5000) (hst : StepsAt w sa L) :
    Calls Try.prog 15 #[.slice sa n cz] w fun e w' => ∃ a c outs, e = .returned (.slice a n c) ∧ Ans w w' L a c outs := by
  subst hn
  exact runMark_ans L sa cz w hok hwt hll hst

set_option maxHeartbeats 4000000 in
theorem walk (l : List Int) (am : Option Addr) (cm : Nat) (w : World) (hnn : am = none → cm = 0 ∧ l.length = 0) (hr : ∀ ad, am = some ad → ∀ j, j < l.length → ad.block < w.heap.size ∧ w.cell? (ad.add j) = some (.int .u64 (l.getD j 0))) (hb : ∀ z ∈ l, 0 ≤ z ∧ z ≤ MAX) :
    Calls Try.prog 4 #[.slice am l.length cm] w fun e w' => e = .returned (.bool true) ∧ Tch [] w w' := by
  have ht := Lib.hid (Tch.refl [] w)
  by_cases h1 : (2147483647 : Int) < l.length
  · have t1 : decide ((2147483647 : Int) < l.length) = true := by simpa using h1
    clear h1 hnn hr hb
    go_enter Try.func4, Try.ntmps4
    go_wp2
    go_ret
    exact ⟨rfl, ht.out⟩
  have t1 : decide ((2147483647 : Int) < l.length) = false := by simpa using h1
  have b1 : (l.length : Int) ≤ 2147483647 := by omega
  by_cases h2 : (1000 : Int) < l.length
  · have t2 : decide ((1000 : Int) < l.length) = true := by simpa using h2
    clear h1 h2 hnn hr hb
    go_enter Try.func4, Try.ntmps4
    go_wp2
    go_ret
    exact ⟨rfl, ht.out⟩
  have t2 : decide ((1000 : Int) < l.length) = false := by simpa using h2
  have b2 : (l.length : Int) ≤ 1000 := by omega
  have HR := Lib.hid hr
  have HNN := Lib.hid hnn
  have HBD := Lib.hid hb
  have hmk := seen_make l w (l.length + 1) (by omega)
  rw [show ((l.length + 1 : Nat) : Int) = (l.length : Int) + 1 by omega] at hmk
  have HMK := Lib.hid hmk
  clear h1 h2 hnn hr hb hmk
  go_enter Try.func4, Try.ntmps4
  go_wp2_with (refine wpList_make_run rfl (.tmp 25) (.tmp 25) 33 rfl (.int .u64 ((l.length : Int) + 1)) (.int .u64 ((l.length : Int) + 1)) (by simp [Act.eval]) (by simp [Act.eval]) _ HMK.out ?_; rintro vv w1 ⟨rfl, q1, q2⟩; have HQ1 := Lib.hid q1; have HQ2 := Lib.hid q2; clear q1 q2)
  go_loopg [29] l.length (fun n s29 wr => ∃ j : Nat, j ≤ l.length ∧ n = l.length - j ∧ s29 = .int .i64 j ∧ Hid (Tch [] w wr ∧ wr.ownsRow 0 4 1 (.slice (some ⟨w.heap.size, 0, none⟩) (l.length + 1) (l.length + 1)) (l.length + 1) (bO l j (l.length + 1)) ∧ (l.take j).Nodup ∧ ∀ x ∈ l.take j, 1 ≤ x ∧ x ≤ l.length))
  case atStart => exact ⟨0, Nat.zero_le _, rfl, rfl, HQ2.out, HQ1.out, by simp, by simp⟩
  case round =>
    obtain ⟨j, hj, rfl, rfl, HI⟩ := hrel
    clear HQ1 HQ2 HMK
    by_cases hlt : j < l.length
    · have hlt2 : (j : Int) < l.length := by omega
      obtain ⟨ad, rfl⟩ : ∃ ad, am = some ad := by
        cases am with
        | none => have := (HNN.out rfl).2; omega
        | some ad => exact ⟨ad, rfl⟩
      obtain ⟨p1, p2⟩ := HR.out ad rfl j hlt
      have hzc : wr.cell? (ad.add j) = some (.int .u64 (l.getD j 0)) := by rw [HI.out.1.cell (by rw [add_block]; exact p1) (by simp)]; exact p2
      have hxm : l.getD j 0 ∈ l := by rw [List.getD_eq_getElem?_getD, List.getElem?_eq_getElem hlt]; exact List.getElem_mem _
      have hxb := HBD.out _ hxm
      have hx0 := hxb.1
      have HTK := Lib.hid (take_getD l 0 hlt)
      have hge : ∀ y : Nat, l.getD j 0 = y → l.getD j 0 = y := fun _ h => h
      have HSE := Lib.hid (fun (y : Nat) (hy : l.getD j 0 = y) => seen_set HI.out.2.1 hlt hy)
      generalize l.getD j 0 = x at *
      have hx1 : x ≤ 18446744073709551615 := by have := hxb.2; unfold MAX at this; omega
      clear hlt p1 p2 hxb hxm hge
      by_cases c1 : x < 1
      · have t3 : decide (x < 1) = true := by simpa using c1
        clear c1 hx0 hx1
        go_wp2_with fail
        go_ret
        exact ⟨rfl, HI.out.1⟩
      have t3 : decide (x < 1) = false := by simpa using c1
      by_cases c2 : (l.length : Int) < x
      · have t4 : decide ((l.length : Int) < x) = true := by simpa using c2
        clear c1 c2 hx0 hx1
        go_wp2_with fail
        go_ret
        exact ⟨rfl, HI.out.1⟩
      have t4 : decide ((l.length : Int) < x) = false := by simpa using c2
      obtain ⟨y, rfl⟩ : ∃ y : Nat, x = y := ⟨x.toNat, by omega⟩
      have hy1 : (y : Int) < (l.length : Int) + 1 := by omega
      have hy2 : y < l.length + 1 := by omega
      have hgl := own_lt HI.out.2.1 (k := w.heap.size) rfl
      obtain ⟨e1, e2⟩ := seen_at HI.out.2.1 hy2
      by_cases c3 : (y : Int) ∈ l.take j
      · have e3 : wr.cell? ⟨w.heap.size, y, none⟩ = some (.bool true) := by rw [e1]; simp [c3]
        clear e1 e2 c1 c2 c3 hx0 hx1 hy2
        go_wp2_with fail
        go_ret
        exact ⟨rfl, HI.out.1⟩
      · have e3 : wr.cell? ⟨w.heap.size, y, none⟩ = some (.bool false) := by rw [e1]; simp [c3]
        have HC3 := Lib.hid c3
        have HY := Lib.hid (show 1 ≤ (y : Int) ∧ (y : Int) ≤ l.length by omega)
        clear e1 c1 c2 c3 hx0 hx1 hy2
        go_wp2_with fail
        go_roundg (l.length - (j + 1))
        case rel =>
          refine ⟨j + 1, by omega, rfl, by go_num, HI.out.1.setCell (p := ⟨w.heap.size, y, none⟩) (fun h => absurd h (Nat.lt_irrefl _)) _, HSE.out y rfl, ?_, ?_⟩
          · rw [HTK.out, List.nodup_append]
            refine ⟨HI.out.2.2.1, by simp, ?_⟩
            intro a ha b hb e
            rw [List.mem_singleton.1 hb] at e
            exact HC3.out (e ▸ ha)
          · intro z hz
            rw [HTK.out] at hz
            rcases List.mem_append.1 hz with hz | hz
            · exact HI.out.2.2.2 z hz
            · rw [List.mem_singleton.1 hz]; exact HY.out
        case measure => omega
    · obtain rfl : j = l.length := by omega
      have HO := Lib.hid (IsOrd.of HI.out.2.2.1 HI.out.2.2.2)
      have HT1 := Lib.hid HI.out.1
      have HST := Lib.hid (StepsRow.start w wr HI.out.1)
      clear hlt hj HI HBD
      go_wp2_with fail
      go_loopg [7, 8] l.length (fun n s7 s8 wr => ∃ (i g c : Nat), i ≤ l.length ∧ n = l.length - i ∧ s8 = .int .u64 ((i : Int) + 1) ∧ s7 = .slice (some ⟨g, 0, none⟩) i c ∧ Hid (StepsRow w wr g i c (orB i)))
      case atStart => exact ⟨0, _, _, Nat.zero_le _, rfl, rfl, rfl, HST.out⟩
      case round =>
        obtain ⟨i, g, c, hi, rfl, rfl, rfl, HS⟩ := hrel
        clear HST
        by_cases hlt : i < l.length
        · have hlt2 : (i : Int) + 1 ≤ l.length := by omega
          have HA := Lib.hid (HS.out.push (by omega) 0 ((i : Int) + 1) 22 wr.heap.size rfl)
          clear HS hlt
          go_wp2_with (at_builtin; refine wpList_append_run rfl (.tmp 56) (.tmp 59) 22 rfl (.slice (some ⟨g, 0, none⟩) i c) (.slice (some ⟨wr.heap.size, 0, none⟩) 1 1) (by simp [Act.eval]) (by simp [Act.eval]) _ HA.out ?_; rintro vv w3 ⟨g', c', rfl, hs⟩; have HS3 := Lib.hid hs; clear hs)
          go_roundg (l.length - (i + 1))
          case rel => exact ⟨i + 1, g', c', by omega, rfl, by go_num, rfl, by have := HS3.out; rw [← orB_succ] at this; exact this⟩
          case measure => omega
        · obtain rfl : i = l.length := by omega
          have HS2 := Lib.hid HS.out
          clear HS hlt hi
          go_wp2_with fail
          go_loopg [7, 63] l.length (fun n s7 s63 wr => ∃ (j g c : Nat), j ≤ l.length ∧ n = l.length - j ∧ s63 = .int .i64 j ∧ s7 = .slice (some ⟨g, 0, none⟩) (l.length + j) c ∧ Hid (StepsRow w wr g (l.length + j) c (orB l.length ++ orD (l.take j))))
          case atStart => exact ⟨0, _, _, Nat.zero_le _, rfl, rfl, rfl, Lib.hid (by simpa [orD] using HS2.out)⟩
          case round =>
            obtain ⟨j, g, c, hj, rfl, rfl, rfl, HS⟩ := hrel
            clear HS2
            by_cases hlt : j < l.length
            · have hlt2 : (j : Int) < l.length := by omega
              obtain ⟨ad, rfl⟩ : ∃ ad, am = some ad := by
                cases am with
                | none => have := (HNN.out rfl).2; omega
                | some ad => exact ⟨ad, rfl⟩
              obtain ⟨p1, p2⟩ := HR.out ad rfl j hlt
              have hzc : wr.cell? (ad.add j) = some (.int .u64 (l.getD j 0)) := by rw [HS.out.t.cell (by rw [add_block]; exact p1) (by simp)]; exact p2
              have HTK := Lib.hid (take_getD l 0 hlt)
              generalize l.getD j 0 = x at *
              have HA := Lib.hid (HS.out.push (by omega) 2 x 22 wr.heap.size rfl)
              clear HS hlt p1 p2
              go_wp2_with (at_builtin; refine wpList_append_run rfl (.tmp 67) (.tmp 70) 22 rfl (.slice (some ⟨g, 0, none⟩) (l.length + j) c) (.slice (some ⟨wr.heap.size, 0, none⟩) 1 1) (by simp [Act.eval]) (by simp [Act.eval]) _ HA.out ?_; rintro vv w3 ⟨g', c', rfl, hs⟩; have HS3 := Lib.hid hs; clear hs)
              go_roundg (l.length - (j + 1))
              case rel => exact ⟨j + 1, g', c', by omega, rfl, by go_num, rfl, by have := HS3.out; rw [HTK.out, orD, List.map_append, ← List.append_assoc]; exact this⟩
              case measure => omega
            · obtain rfl : j = l.length := by omega
              have hso := HS.out
              rw [List.take_length] at hso
              have hlo : l.length ≤ 1000 := by omega
              have HC := Lib.hid (runMark_n (L := orL l.length l) (n := l.length + l.length) (orL_len l).symm (some ⟨g, 0, none⟩) c wr (or_ok HO.out hlo) (by have e : wt (orL l.length l) = (orL l.length l).length := wt_plain hso.many; rw [e, orL_len]; omega) (by rw [orL_len]; omega) hso.steps)
              have HT2 := Lib.hid hso.t
              have HMK2 := Lib.hid (fun w' : World => seen_make l w' (l.length + 2) (by omega))
              rw [show ((l.length + 2 : Nat) : Int) = (l.length : Int) + 2 by omega] at HMK2
              clear HS hlt hj hso hlo
              go_wp2_with (first | (go_at_call 15; refine HC.out.mono ?_; rintro e w5 ⟨ga, gc, gouts, rfl, h1⟩; have HG := Lib.hid h1; clear h1) | (refine wpList_make_run rfl (.tmp 82) (.tmp 82) 33 rfl (.int .u64 ((l.length : Int) + 2)) (.int .u64 ((l.length : Int) + 2)) (by simp [Act.eval]) (by simp [Act.eval]) _ (HMK2.out w5) ?_; rintro vv w6 ⟨rfl, q1, q2⟩; have HQ1 := Lib.hid q1; have HQ2 := Lib.hid q2; clear q1 q2))
              have HT5 := Lib.hid (HT2.out.trans HG.out.out.t)
              go_loopg [13, 86] l.length (fun n s13 s86 wr => ∃ j : Nat, j ≤ l.length ∧ n = l.length - j ∧ s86 = .int .i64 j ∧ s13 = .int .u64 (uO l j : Nat) ∧ Hid (Tch [] w5 wr ∧ wr.ownsRow 0 4 1 (.slice (some ⟨w5.heap.size, 0, none⟩) (l.length + 2) (l.length + 2)) (l.length + 2) (bO l j (l.length + 2))))
              case atStart => exact ⟨0, Nat.zero_le _, rfl, rfl, rfl, HQ2.out, HQ1.out⟩
              case round =>
                obtain ⟨j, hj, rfl, rfl, rfl, HI⟩ := hrel
                obtain ⟨wo, rfl⟩ : ∃ wo : World, wo = wr := ⟨_, rfl⟩
                clear HQ1 HQ2 HMK2 HC
                by_cases hlt : j < l.length
                · have hlt2 : (j : Int) < l.length := by omega
                  obtain ⟨ad, rfl⟩ : ∃ ad, am = some ad := by
                    cases am with
                    | none => have := (HNN.out rfl).2; omega
                    | some ad => exact ⟨ad, rfl⟩
                  obtain ⟨p1, p2⟩ := HR.out ad rfl j hlt
                  have hzc : wo.cell? (ad.add j) = some (.int .u64 (l.getD j 0)) := by rw [(HT5.out.trans HI.out.1).cell (by rw [add_block]; exact p1) (by simp)]; exact p2
                  obtain ⟨x, hx, x1, x2, x3⟩ := ord_at HO.out hlt
                  have HSE := Lib.hid (seen_set HI.out.2 hlt hx)
                  rw [hx] at hzc
                  have hx0 : (x : Int) < (l.length : Int) + 2 := by omega
                  obtain ⟨e1, e2⟩ := seen_at HI.out.2 (i := x) (by omega)
                  have hgl := own_lt HI.out.2 (k := w5.heap.size) rfl
                  have HUM := Lib.hid (uO_mono (l := l) j)
                  have HUE := Lib.hid ((uO_facts HO.out (j + 1) hlt).1)
                  have HGO := Lib.hid (fun v h2 => uO_go HO.out hlt (v := v) h2)
                  have HTC := Lib.hid (HI.out.1.setCell (p := ⟨w5.heap.size, x, none⟩) (fun h => absurd h (Nat.lt_irrefl _)) (.bool true))
                  have hlj := orL_len l
                  obtain ⟨g1, rfl, y0, y1, y2, y3, -⟩ := (HG.out.tch HTC.out).at (k := l.length + j) (by omega)
                  obtain ⟨g2, e9, z0, z1, z2, z3, -⟩ := (HG.out.tch HTC.out).at (k := j) (by omega)
                  simp only [Option.some.injEq, Addr.mk.injEq, and_true] at e9
                  subst e9
                  rw [(or_tells2 HO.out hlt).1] at y0
                  rw [(or_tells1 hlt).1] at z0
                  rw [(or_tells1 hlt).2] at z1
                  have HY0 := Lib.hid y0
                  have HZ0 := Lib.hid z0
                  have HZ1 := Lib.hid z1
                  clear p1 p2 hx x1 x3 hlj y0 y1 y2 y3 z0 z1 z2 z3
                  go_wp2_with fail
                  go_loopg [13] (uO l (j + 1) - uO l j) (fun n s13 wr => ∃ v : Nat, uO l j ≤ v ∧ v ≤ uO l (j + 1) ∧ n = uO l (j + 1) - v ∧ s13 = .int .u64 v ∧ Hid (wo.setCell ⟨w5.heap.size, x, none⟩ (.bool true) = wr))
                  case atStart => exact ⟨_, Nat.le_refl _, HUM.out, rfl, rfl, Lib.hid rfl⟩
                  case round =>
                    obtain ⟨v, v1, v2, rfl, rfl, HW⟩ := hrel
                    obtain rfl := HW.out
                    have v3 := HUE.out
                    obtain ⟨d1, -⟩ := seen_at HSE.out (i := v + 1) (by omega)
                    rw [HGO.out v v2] at d1
                    have v4 : (v : Int) + 1 < (l.length : Int) + 2 := by omega
                    clear e1 e2
                    by_cases hv : v < uO l (j + 1)
                    · have d2 : (wo.setCell ⟨w5.heap.size, x, none⟩ (.bool true)).cell? ⟨w5.heap.size, v + 1, none⟩ = some (.bool true) := by rw [d1]; simp [hv]
                      have HD := Lib.hid d2
                      have HV := Lib.hid v1
                      clear d1 v1 v2
                      go_wp2_with fail
                      go_roundg (uO l (j + 1) - (v + 1))
                      case rel => exact ⟨v + 1, by have := HV.out; omega, by omega, rfl, by go_num, Lib.hid rfl⟩
                      case measure => omega
                    · obtain rfl : v = uO l (j + 1) := by omega
                      have d2 : (wo.setCell ⟨w5.heap.size, x, none⟩ (.bool true)).cell? ⟨w5.heap.size, uO l (j + 1) + 1, none⟩ = some (.bool false) := by rw [d1]; simp
                      have y0 := HY0.out
                      have z0 := HZ0.out
                      have z1 := HZ1.out
                      clear d1 v1 v2 hv
                      go_wp2_with fail
                      go_roundg (l.length - (j + 1))
                      case rel => exact ⟨j + 1, by omega, rfl, by go_num, rfl, HTC.out, HSE.out⟩
                      case measure => omega
                · obtain rfl : j = l.length := by omega
                  clear hlt hj
                  by_cases h0 : l.length = 0
                  · have t0 : ((l.length : Int) == 0) = true := by simpa using h0
                    have t9 : (l.length : Int) = 0 := by omega
                    have HT9 := Lib.hid (HT5.out.trans HI.out.1)
                    clear h0 HI
                    go_wp2_with fail
                    go_ret
                    exact ⟨rfl, HT9.out⟩
                  · have t0 : ((l.length : Int) == 0) = false := by simpa using h0
                    have hlj := orL_len l
                    obtain ⟨m, hm⟩ : ∃ m, l.length = m + 1 := ⟨l.length - 1, by omega⟩
                    obtain ⟨g1, rfl, y0, y1, y2, y3, -⟩ := (HG.out.tch HI.out.1).at (k := 2 * l.length - 1) (by omega)
                    have e5 : 2 * l.length - 1 = l.length + m := by omega
                    have e6 : m + 1 = l.length := by omega
                    have f1 := (or_tells2 HO.out (j := m) (by omega)).1
                    have f2 := (or_tells2 HO.out (j := m) (by omega)).2
                    rw [e6, uO_end HO.out] at f1 f2
                    rw [← e5] at f1 f2
                    rw [f1] at y0
                    rw [f2] at y2
                    have e7 : ((l.length - l.length : Nat) : Int) = 0 := by omega
                    rw [e7] at y2
                    have h5 : 1 ≤ l.length := by omega
                    have HT9 := Lib.hid (HT5.out.trans HI.out.1)
                    clear h0 hlj hm e5 e6 f1 f2 e7 y1 y3 HI
                    go_wp2_with fail
                    go_ret
                    exact ⟨rfl, HT9.out⟩

/-! ### The row's step -/
theorem lifted (os : Os) (started : os.Started) (H : Type) (enc : TypeId × Value → H) :
    ReturnsInHanded {} Try.checked os 4 .any (Rows.fnMarkOrderSpec.pre6 enc Try.prog Try.f4 Rows.fnMarkOrderRow.domain false) (Rows.fnMarkOrderSpec.post enc Try.prog Try.f4 false true false false) := by
  refine returnsInHanded_of_change (C := Try.checked) own started (by kernel_rfl) Try.func4
    (ChangeSpec.witness6 (enc := enc) (C := Try.checked) false ⟨#[], #[.slice none 0 0], []⟩ 8 (by kernel_rfl) (by kernel_rfl) (by kernel_rfl) (by kernel_rfl)) ?_
  intro W base args ds gs before hval0 hW hcnd _
  have hval : ∀ (j : Nat) t v, Try.f4.params[j]? = some t → args[j]? = some v → Value.okWide Try.prog W .any base t v := hval0
  have hW' := hW
  obtain ⟨p, q, hA0, hV, rfl, hfz, hnd⟩ := hW
  have hA : DataW.TrodAll enc Try.prog W 0 (fun _ => true) true Try.f4.params.toList args.toList ds p := hA0
  have hA1 := hA
  rw [Try.params4] at hA1 hval
  obtain ⟨v0, vs0, d0, ds0, p0, q0, hargs, rfl, rfl, h0, r0⟩ := trodAll_cons hA1
  obtain ⟨rfl, rfl, rfl⟩ := trodAll_nil r0
  obtain rfl : args = #[v0] := by cases args; simp_all
  obtain ⟨rfl, rfl⟩ := trodVars_none hV
  obtain ⟨fuel, hf⟩ := h0
  obtain ⟨a0, l0, c0, rfl⟩ := okWide_slice Try.underlying29 (hval 0 29 v0 rfl rfl)
  obtain ⟨sa, L, cz, e, hnn, hr, hb⟩ := open_u64s hf
  simp only [Value.cells, List.cons.injEq, and_true, Value.slice.injEq] at e
  obtain ⟨rfl, rfl, rfl⟩ := e
  refine (walk L a0 c0 W hnn hr hb).mono fun e W' ⟨he, hg⟩ => ?_
  subst he
  simp only [List.append_nil] at hW' hA
  exact ⟨_, rfl, post_law rfl 4 Try.underlying4 rfl rfl Try.kids Try.full (by rw [Try.params4]; intro t ht; have ht := List.mem_singleton.1 ht; subst ht; exact (show 29 < Try.prog.types.size by rw [Try.tsize]; omega)) hW' hA hg⟩

theorem over : Rows.fnMarkOrderRow.holds Try.pinned (OpenSpec.ofChange Rows.fnMarkOrderSpec) :=
  OpenClaim.holds_of_wide 4 Try.f4 rfl rfl rfl rfl rfl rfl rfl ⟨rfl, rfl, rfl, rfl, rfl⟩ rfl rfl rfl rfl rfl (by kernel_rfl) Try.func4 (by kernel_rfl)
    (of_decide_eq_true (by kernel_rfl)) (by unfold Func.isWrapper; first | (rw [if_pos (by decide +kernel)]; kernel_rfl) | (rw [if_neg (by decide +kernel)]; exact ⟨rfl, rfl⟩))
    (fun os started H enc _ => lifted os started H enc)

/-- The statement. -/
theorem proved : Rows.FnMarkOrderSaid :=
  over
#print axioms proved
end Go.Proofs.Ytaheafmdkbobcaa.fnMarkOrder
