/- FnMarkTwice returns true for every index and every number of times: an index that began some times is done when it has been done as many times, not before. No condition. -/
import Derived.Test.YtaheafmdkbobcaaTwice
import Derived.Test.YtaheafmdkbobcaaRows
import Derived.WalkKit
import Derived.ProofKit
import Derived.OpenShut
import Derived.ShutString
namespace Go.Proofs.Ytaheafmdkbobcaa.fnMarkTwice
open Go.ChangeShapes Go.WideShapes Go.ChangeAt Go.RowKit
open Go.ChangeMaps (open_string shut_string)
set_option linter.unusedVariables false      -- a walk need not use every 'w<i>' (that an integer argument fits its kind)

theorem own : ownKnob Try.prog.godebug = none := by kernel_rfl

theorem tw_push1 (x : Int) (j : Nat) : twL x j 0 ++ [⟨0, x, []⟩] = twL x (j + 1) 0 := by simp [twL, List.replicate_succ']
theorem tw_push2 (x : Int) (n j : Nat) : twL x n j ++ [⟨2, x, []⟩] = twL x n (j + 1) := by simp [twL, List.replicate_succ']

set_option maxRecDepth 100000 in
set_option maxHeartbeats 1000000 in
theorem walk (a0 : Int) (a1 : Int) (w0 : (Lit.int .u64 a0).wf = true) (w1 : (Lit.int .u16 a1).wf = true) (w : World) :
    Calls Try.prog 9 #[.int .u64 a0, .int .u16 a1] w fun e w' => e = .returned (.bool true) ∧ Tch [] w w' := by
  have r0 := wf_u64 w0
  have r1 : 0 ≤ a1 := by
    simp only [Lit.wf, Bool.and_eq_true, decide_eq_true_eq] at w1
    exact w1.1
  have ht := Lib.hid (Tch.refl [] w)
  by_cases h1 : a0 < 1
  · have t1 : decide (a0 < 1) = true := by simpa using h1
    clear h1 r0 r1 w0 w1
    go_enter Try.func9, Try.ntmps9
    go_wp2
    go_ret
    exact ⟨rfl, ht.out⟩
  have t1 : decide (a0 < 1) = false := by simpa using h1
  by_cases h2 : a0 = 18446744073709551615
  · have t2 : (a0 == 18446744073709551615) = true := by simpa using h2
    clear h1 h2 r0 r1 w0 w1
    go_enter Try.func9, Try.ntmps9
    go_wp2
    go_ret
    exact ⟨rfl, ht.out⟩
  have t2 : (a0 == 18446744073709551615) = false := by simpa using h2
  by_cases h3 : a1 < 1
  · have t3 : decide (a1 < 1) = true := by simpa using h3
    clear h1 h2 h3 r0 r1 w0 w1
    go_enter Try.func9, Try.ntmps9
    go_wp2
    go_ret
    exact ⟨rfl, ht.out⟩
  have t3 : decide (a1 < 1) = false := by simpa using h3
  by_cases h4 : 500 < a1
  · have t4 : decide (500 < a1) = true := by simpa using h4
    clear h1 h2 h3 h4 r0 r1 w0 w1
    go_enter Try.func9, Try.ntmps9
    go_wp2
    go_ret
    exact ⟨rfl, ht.out⟩
  have t4 : decide (500 < a1) = false := by simpa using h4
  obtain ⟨n, rfl⟩ : ∃ n : Nat, a1 = n := ⟨a1.toNat, by omega⟩
  have n1 : 1 ≤ n := by omega
  have n2 : n ≤ 500 := by omega
  have HOK := Lib.hid (tw_ok (x := a0) (n := n) (by omega) (by have := r0.2; show a0 < MAX; unfold MAX; omega) n1)
  clear h1 h2 h3 h4 r0 r1 w0 w1
  go_enter Try.func9, Try.ntmps9
  go_wp2_with fail
  go_loopg [6, 27] n (fun k s6 s27 wr => ∃ (j g c : Nat), j ≤ n ∧ k = n - j ∧ s27 = .int .i64 j ∧ s6 = .slice (some ⟨g, 0, none⟩) j c ∧ Hid (StepsRow w wr g j c (twL a0 j 0)))
  case atStart => exact ⟨0, _, _, Nat.zero_le _, rfl, rfl, rfl, StepsRow.start w w ht.out⟩
  case round =>
    obtain ⟨j, g, c, hj, rfl, rfl, rfl, HS⟩ := hrel
    by_cases hlt : j < n
    · have hlt2 : (j : Int) < n := by omega
      have HA := Lib.hid (HS.out.push (by omega) 0 a0 22 wr.heap.size rfl)
      clear HS hlt
      go_wp2_with (at_builtin; refine wpList_append_run rfl (.tmp 29) (.tmp 32) 22 rfl (.slice (some ⟨g, 0, none⟩) j c) (.slice (some ⟨wr.heap.size, 0, none⟩) 1 1) (by simp [Act.eval]) (by simp [Act.eval]) _ HA.out ?_; rintro vv w3 ⟨g', c', rfl, hs⟩; have HS3 := Lib.hid hs; clear hs)
      go_roundg (n - (j + 1))
      case rel => exact ⟨j + 1, g', c', by omega, rfl, by go_num, rfl, by have := HS3.out; rw [tw_push1] at this; exact this⟩
      case measure => omega
    · obtain rfl : j = n := by omega
      have HS2 := Lib.hid HS.out
      clear HS hlt hj
      go_wp2_with fail
      go_loopg [6, 36] j (fun k s6 s36 wr => ∃ (i g c : Nat), i ≤ j ∧ k = j - i ∧ s36 = .int .i64 i ∧ s6 = .slice (some ⟨g, 0, none⟩) (j + i) c ∧ Hid (StepsRow w wr g (j + i) c (twL a0 j i)))
      case atStart => exact ⟨0, _, _, Nat.zero_le _, rfl, rfl, rfl, HS2.out⟩
      case round =>
        obtain ⟨i, g, c, hi, rfl, rfl, rfl, HS⟩ := hrel
        clear HS2
        by_cases hlt : i < j
        · have hlt2 : (i : Int) < j := by omega
          have HA := Lib.hid (HS.out.push (by omega) 2 a0 22 wr.heap.size rfl)
          clear HS hlt
          go_wp2_with (at_builtin; refine wpList_append_run rfl (.tmp 38) (.tmp 41) 22 rfl (.slice (some ⟨g, 0, none⟩) (j + i) c) (.slice (some ⟨wr.heap.size, 0, none⟩) 1 1) (by simp [Act.eval]) (by simp [Act.eval]) _ HA.out ?_; rintro vv w3 ⟨g', c', rfl, hs⟩; have HS3 := Lib.hid hs; clear hs)
          go_roundg (j - (i + 1))
          case rel => exact ⟨i + 1, g', c', by omega, rfl, by go_num, rfl, by have := HS3.out; rw [tw_push2] at this; exact this⟩
          case measure => omega
        · obtain rfl : i = j := by omega
          clear hlt hi
          go_wp2_with (go_at_call 15; refine (runMark_row HS.out (by omega) HOK.out).mono ?_; rintro e w2 ⟨ov, outs, rfl, ho, hm⟩; obtain ⟨g2, c2, rfl⟩ := ho.shapeN hm (by omega); have hend := ho.at hm (k := 2 * i - 1) (by omega); obtain ⟨x0, x1, x2, -⟩ := hend; rw [(tw_end n1).1] at x0; rw [(tw_end n1).2] at x2; have HO := Lib.hid ho; have HM := Lib.hid hm; clear ho hm x1)
          rename ((i : Int) + (i : Int) = 2 * (i : Int)) => hq
          clear hq
          go_loopg [75] (2 * i) (fun k s75 wr => ∃ j : Nat, j < 2 * i ∧ k = 2 * i - j ∧ s75 = .int .i64 j ∧ Hid (w2 = wr))
          case atStart => exact ⟨0, by omega, rfl, rfl, Lib.hid rfl⟩
          case round =>
            obtain ⟨j, hj, rfl, rfl, HW⟩ := hrel
            obtain rfl := HW.out
            clear x0 x2
            by_cases hlt : j + 1 < 2 * i
            · have hlt2 : (j : Int) < 2 * (i : Int) - 1 := by omega
              have hlt3 : (j : Int) < (i : Int) + i := by omega
              obtain ⟨y0, y1, y2, -⟩ := HO.out.at HM.out (k := j) (by omega)
              obtain ⟨z0, z1, z2⟩ := tw_tell (x := a0) n1 (k := j) hlt
              rw [z0] at y0
              rw [z1] at y1
              rw [z2] at y2
              clear z0 z1 z2 hlt
              go_wp2_with fail
              go_roundg (2 * i - (j + 1))
              case rel => exact ⟨j + 1, by omega, rfl, by go_num, Lib.hid rfl⟩
              case measure => omega
            · have hlt2 : decide ((j : Int) < 2 * (i : Int) - 1) = false := by simp; omega
              have hlt3 : 2 * (i : Int) - 1 ≤ (j : Int) := by omega
              clear hlt
              go_wp2_with fail
              go_ret
              exact ⟨rfl, HO.out.t⟩

/-! ### THE ROW's STEP: WRITTEN OUT: LEAVE IT -/
set_option maxRecDepth 100000 in
theorem lifted (os : Os) (started : os.Started) (H : Type) (enc : TypeId × Value → H) :
    ReturnsInHanded {} Try.checked os 9 .any (Rows.fnMarkTwiceSpec.pre6 enc Try.prog Try.f9 Rows.fnMarkTwiceRow.domain false) (Rows.fnMarkTwiceSpec.post enc Try.prog Try.f9 false true false false) := by
  refine returnsInHanded_of_change (C := Try.checked) own started (by kernel_rfl) Try.func9
    (ChangeSpec.witness6 (enc := enc) (C := Try.checked) false ⟨#[], #[.int .u64 0, .int .u16 0], []⟩ 8 (by kernel_rfl) (by kernel_rfl) (by kernel_rfl) (by kernel_rfl)) ?_
  intro W base args ds gs before hval0 hW hcnd _
  have hval : ∀ (j : Nat) t v, Try.f9.params[j]? = some t → args[j]? = some v → Value.okWide Try.prog W .any base t v := hval0
  have hW' := hW
  obtain ⟨p, q, hA0, hV, rfl, hfz, hnd⟩ := hW
  have hA : DataW.TrodAll enc Try.prog W 0 (fun _ => true) true Try.f9.params.toList args.toList ds p := hA0
  rw [Try.params9] at hA hval
  obtain ⟨v0, vs0, d0, ds0, p0, q0, hargs, rfl, rfl, h0, r0⟩ := trodAll_cons hA
  obtain ⟨v1, vs1, d1, ds1, p1, q1, rfl, rfl, rfl, h1, r1⟩ := trodAll_cons r0
  obtain ⟨rfl, rfl, rfl⟩ := trodAll_nil r1
  obtain rfl : args = #[v0, v1] := by cases args; simp_all
  obtain ⟨rfl, rfl⟩ := trodVars_none hV
  obtain ⟨a0, rfl, rfl, rfl, w0⟩ := open_int Try.underlying28 (hval 0 28 v0 rfl rfl) h0
  obtain ⟨a1, rfl, rfl, rfl, w1⟩ := open_int Try.underlying38 (hval 1 38 v1 rfl rfl) h1
  clear hA0 hval0
  simp only [List.append_nil] at hW'
  refine (walk a0 a1 w0 w1 W).mono fun e W' ⟨he, hg⟩ => ?_
  subst he
  exact ⟨_, rfl, post_of_tch (pa := []) (pv := []) hW' (fun _ _ _ => (trodAll_cons_mk (shut_bool Try.underlying4 _) trodAll_mk0)) (fun sp _ => (trodAll_cons_mk (shut_int Try.underlying28 w0) (trodAll_cons_mk (shut_int Try.underlying38 w1) trodAll_mk0))) (fun _ _ => rfl) rfl
    hg (ok_one (by kernel_rfl) rfl (okWide_bool_mk Try.underlying4 _))⟩

theorem over : Rows.fnMarkTwiceRow.holds Try.pinned (OpenSpec.ofChange Rows.fnMarkTwiceSpec) :=
  OpenClaim.holds_of_wide 9 Try.f9 rfl rfl rfl rfl rfl rfl rfl ⟨rfl, rfl, rfl, rfl, rfl⟩ rfl rfl rfl rfl rfl (by kernel_rfl) Try.func9 (by kernel_rfl)
    (of_decide_eq_true (by kernel_rfl)) (by unfold Func.isWrapper; first | (rw [if_pos (by decide +kernel)]; kernel_rfl) | (rw [if_neg (by decide +kernel)]; exact ⟨rfl, rfl⟩))
    (fun os started H enc _ => lifted os started H enc)

/-- ████ THE STATEMENT ████ -/
theorem proved : Rows.FnMarkTwiceSaid :=
  over
#print axioms proved
end Go.Proofs.Ytaheafmdkbobcaa.fnMarkTwice
