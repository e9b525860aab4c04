/- spec's step that sets the mark. -/
import Derived.Test.YtaheafmdkbobcaaSpecI
namespace Go.Proofs.Ytaheafmdkbobcaa
open Go.RowKit

set_option maxRecDepth 100000

def setOk (q : MSt × List Int) (ix : Int) : Bool := decide (q.1.pl.length = 0) && decide (cntW q.2 q.1.til = 0) && decide (q.1.til ≤ ix) && decide (ix < 18446744073709551615)

theorem setOk_ok {q : MSt × List Int} {ix : Int} (zs : List Int) (h : setOk q ix = true) : okStp q.1 q.2 ⟨5, ix, zs⟩ := by
  simp only [setOk, Bool.and_eq_true, decide_eq_true_eq] at h
  obtain ⟨⟨⟨h1, h2⟩, h3⟩, h4⟩ := h
  exact .inr (.inr (.inr (.inr (.inr ⟨rfl, List.eq_nil_of_length_eq_zero h1, cntW_zero h2, h3, h4⟩))))

set_option maxHeartbeats 2000000 in
theorem sstep_set (ix : Int) (am : Option Addr) (cm : Nat) (zs : List Int) (tb : Nat) (fp : List Nat) (N : Nat) (q : MSt × List Int) (w : World) (hN : N ≤ 90000) (h : SpAt w tb fp N q) :
    Calls Try.prog 18 #[ptr tb, stepVal 5 ix am zs.length cm] w (Stepped w tb fp N q ⟨5, ix, zs⟩) := by
  have t1 : Tch [] w (w.alloc (stepObj 5 ix am zs.length cm)) := (Tch.refl _ _).alloc _
  obtain ⟨va, vw, all, hd, hfp⟩ := h.tch t1
  have hwl := hd.wlen
  have hpl : q.1.pl.length = all.length := by rw [hd.pl]; simp [plOf]
  have hal := hd.len
  obtain ⟨c0, c1, c2, c3, fz⟩ := hd.td.facts
  obtain ⟨a, c, rfl⟩ := ownsRow_slice hd.td.arow
  have f1 := fz 1
  have hbx := heap_alloc_new w (stepObj 5 ix am zs.length cm)
  generalize hW : w.alloc (stepObj 5 ix am zs.length cm) = W1 at *
  have b0 : W1.cell? ⟨w.heap.size, 0, none⟩ = some (.int .i64 5) := by rw [cell_of_row W1 _ _ _ 31 (0, 0) hbx]; rfl
  have b1 : W1.cell? ⟨w.heap.size, 1, none⟩ = some (.int .u64 ix) := by rw [cell_of_row W1 _ _ _ 31 (0, 0) hbx]; rfl
  have HD := Lib.hid hd
  have HFP := Lib.hid hfp
  have HW := Lib.hid hW
  have HT := Lib.hid t1
  have HPL := Lib.hid hpl
  have l1 := lt_of_obj hbx
  have l2 := lt_of_obj hd.td.str
  have HFIN : Hid (∀ n, Stepped w tb fp N q ⟨5, ix, zs⟩ (.returned (.bool (setOk q ix))) ((W1.drewN n).setCell ⟨tb, 1, none⟩ (.int .u64 ix))) := Lib.hid (fun n => by
    have t2 : Tch [] W1 (W1.drewN n) := (Tch.refl _ _).drewN n
    have hl := set_put (x := ix) (hd.tch t2 (by simp)) hfp
    have hl2 := (hl.after t2).after t1
    refine ⟨setOk q ix, rfl, fun hr => ⟨setOk_ok zs hr, by rw [stp_5]; exact hl2.mono (by omega)⟩, fun _ => ?_⟩
    obtain ⟨fp', -, -, t⟩ := hl2
    exact t)
  have hwl2 : q.2.length ≤ 100000 := by omega
  have hal2 : all.length ≤ 90000 := by omega
  clear h hd hfp hW hbx fz c2 c3 t1 hpl hwl hal
  by_cases g1 : ¬ (all.length = 0)
  · have t1 : ((all.length : Int) == 0) = false := by rw [beq_eq_false_iff_ne]; omega
    have hres : setOk q ix = false := by have := HPL.out; simp only [setOk, Bool.and_eq_false_iff, decide_eq_false_iff_not]; omega
    have HF := Lib.hid (fun n => show Stepped w tb fp N q ⟨5, ix, zs⟩ (.returned (.bool false)) ((W1.drewN n).setCell ⟨tb, 1, none⟩ (.int .u64 ix)) from by have := HFIN.out n; rw [hres] at this; exact this)
    clear hres HFIN g1
    go_enter Try.func18, Try.ntmps18
    go_upto_region 1 with fail
    rw [HW.out]
    go_wp2_with fail
    go_quiet ((go_at_call 19; exact Calls.quiet_of_same ((swaiting_any tb (.slice a all.length c) vw all q.1.til q.1.last q.2 _ hwl2 (HD.out.td.tch (S := []) ((Tch.refl _ _).drewN _) (by simp))).mono (fun e w' h => ⟨h.1, h.2.symm⟩))))
    go_wp2_with fail
    go_ret
    exact HF.out _
  have g1 := Decidable.not_not.1 g1
  have t1 : ((all.length : Int) == 0) = true := by rw [beq_iff_eq]; omega
  by_cases g2 : ¬ (cntW q.2 q.1.til = 0)
  · have t2 : ((cntW q.2 q.1.til : Int) == 0) = false := by rw [beq_eq_false_iff_ne]; omega
    have hres : setOk q ix = false := by simp only [setOk, Bool.and_eq_false_iff, decide_eq_false_iff_not]; omega
    have HF := Lib.hid (fun n => show Stepped w tb fp N q ⟨5, ix, zs⟩ (.returned (.bool false)) ((W1.drewN n).setCell ⟨tb, 1, none⟩ (.int .u64 ix)) from by have := HFIN.out n; rw [hres] at this; exact this)
    clear hres HFIN g1 g2
    go_enter Try.func18, Try.ntmps18
    go_upto_region 1 with fail
    rw [HW.out]
    go_wp2_with fail
    go_quiet ((go_at_call 19; exact Calls.quiet_of_same ((swaiting_any tb (.slice a all.length c) vw all q.1.til q.1.last q.2 _ hwl2 (HD.out.td.tch (S := []) ((Tch.refl _ _).drewN _) (by simp))).mono (fun e w' h => ⟨h.1, h.2.symm⟩))))
    go_wp2_with fail
    go_ret
    exact HF.out _
  have g2 := Decidable.not_not.1 g2
  have t2 : ((cntW q.2 q.1.til : Int) == 0) = true := by rw [beq_iff_eq]; omega
  by_cases g3 : ¬ (q.1.til ≤ ix)
  · have t3 : decide (q.1.til ≤ ix) = false := by simpa using g3
    have hres : setOk q ix = false := by simp only [setOk, Bool.and_eq_false_iff, decide_eq_false_iff_not]; omega
    have HF := Lib.hid (fun n => show Stepped w tb fp N q ⟨5, ix, zs⟩ (.returned (.bool false)) ((W1.drewN n).setCell ⟨tb, 1, none⟩ (.int .u64 ix)) from by have := HFIN.out n; rw [hres] at this; exact this)
    clear hres HFIN g1 g2 g3
    go_enter Try.func18, Try.ntmps18
    go_upto_region 1 with fail
    rw [HW.out]
    go_wp2_with fail
    go_quiet ((go_at_call 19; exact Calls.quiet_of_same ((swaiting_any tb (.slice a all.length c) vw all q.1.til q.1.last q.2 _ hwl2 (HD.out.td.tch (S := []) ((Tch.refl _ _).drewN _) (by simp))).mono (fun e w' h => ⟨h.1, h.2.symm⟩))))
    go_wp2_with fail
    go_ret
    exact HF.out _
  have g3 := Decidable.not_not.1 g3
  have t3 : decide (q.1.til ≤ ix) = true := by simpa using g3
  by_cases g4 : ¬ (ix < 18446744073709551615)
  · have t4 : decide (ix < 18446744073709551615) = false := by simpa using g4
    have hres : setOk q ix = false := by simp only [setOk, Bool.and_eq_false_iff, decide_eq_false_iff_not]; omega
    have HF := Lib.hid (fun n => show Stepped w tb fp N q ⟨5, ix, zs⟩ (.returned (.bool false)) ((W1.drewN n).setCell ⟨tb, 1, none⟩ (.int .u64 ix)) from by have := HFIN.out n; rw [hres] at this; exact this)
    clear hres HFIN g1 g2 g3 g4
    go_enter Try.func18, Try.ntmps18
    go_upto_region 1 with fail
    rw [HW.out]
    go_wp2_with fail
    go_quiet ((go_at_call 19; exact Calls.quiet_of_same ((swaiting_any tb (.slice a all.length c) vw all q.1.til q.1.last q.2 _ hwl2 (HD.out.td.tch (S := []) ((Tch.refl _ _).drewN _) (by simp))).mono (fun e w' h => ⟨h.1, h.2.symm⟩))))
    go_wp2_with fail
    go_ret
    exact HF.out _
  have g4 := Decidable.not_not.1 g4
  have t4 : decide (ix < 18446744073709551615) = true := by simpa using g4
  have hres : setOk q ix = true := by have := HPL.out; simp only [setOk, Bool.and_eq_true, decide_eq_true_eq]; omega
  have HF := Lib.hid (fun n => show Stepped w tb fp N q ⟨5, ix, zs⟩ (.returned (.bool true)) ((W1.drewN n).setCell ⟨tb, 1, none⟩ (.int .u64 ix)) from by have := HFIN.out n; rw [hres] at this; exact this)
  clear hres HFIN g1 g2 g3 g4
  go_enter Try.func18, Try.ntmps18
  go_upto_region 1 with fail
  rw [HW.out]
  go_wp2_with fail
  go_quiet ((go_at_call 19; exact Calls.quiet_of_same ((swaiting_any tb (.slice a all.length c) vw all q.1.til q.1.last q.2 _ hwl2 (HD.out.td.tch (S := []) ((Tch.refl _ _).drewN _) (by simp))).mono (fun e w' h => ⟨h.1, h.2.symm⟩))))
  go_wp2_with fail
  go_ret
  exact HF.out _

end Go.Proofs.Ytaheafmdkbobcaa
