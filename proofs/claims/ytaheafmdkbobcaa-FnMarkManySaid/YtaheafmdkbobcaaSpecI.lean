/- spec's step: the walk. -/
import Derived.Test.YtaheafmdkbobcaaSpecH
namespace Go.Proofs.Ytaheafmdkbobcaa
open Go.RowKit

set_option maxRecDepth 100000

abbrev stepVal (kd ix : Int) (am : Option Addr) (n cm : Nat) : Value := .agg #[.int .i64 kd, .int .u64 ix, .slice am n cm]
abbrev stepObj (kd ix : Int) (am : Option Addr) (n cm : Nat) : Obj := .cells #[.int .i64 kd, .int .u64 ix, .slice am n cm] 31

set_option maxHeartbeats 1000000 in
theorem sstep_begin (ix : Int) (am : Option Addr) (cm : Nat) (zs : List Int) (tb : Nat) (fp : List Nat) (N : Nat) (q : MSt × List Int) (w : World) (hN : N ≤ 90000) (hx : ix ≤ MAX) (h : SpAt w tb fp N q) :
    Calls Try.prog 18 #[ptr tb, stepVal 0 ix am zs.length cm] w (Stepped w tb fp N q ⟨0, ix, zs⟩) := by
  have t1 : Tch [] w (w.alloc (stepObj 0 ix am zs.length cm)) := (Tch.refl _ _).alloc _
  have HC := Lib.hid (sbegin_any ix tb fp N q _ hN hx (h.tch t1))
  have HT := Lib.hid t1
  clear h t1
  go_enter Try.func18, Try.ntmps18
  go_wp2_with (go_at_call 31; refine HC.out.mono ?_; rintro e w1 ⟨r, rfl, h1, h2⟩; have HA := Lib.hid h1; have HB := Lib.hid h2; clear h1 h2)
  go_ret
  refine ⟨r, rfl, fun hr => ?_, fun hr => (HT.out.trans (HB.out hr)).mono (by simp)⟩
  obtain ⟨a, b⟩ := HA.out hr
  exact ⟨.inl ⟨rfl, a⟩, by rw [stp_0]; exact (b.after HT.out).mono (by omega)⟩

set_option maxHeartbeats 1000000 in
theorem sstep_none (kd ix : Int) (am : Option Addr) (cm : Nat) (zs : List Int) (tb : Nat) (fp : List Nat) (N : Nat) (q : MSt × List Int) (w : World) (h0 : kd ≠ 0) (h1 : kd ≠ 1) (h2 : kd ≠ 2) (h3 : kd ≠ 3) (h4 : kd ≠ 4) (h5 : kd ≠ 5) :
    Calls Try.prog 18 #[ptr tb, stepVal kd ix am zs.length cm] w (Stepped w tb fp N q ⟨kd, ix, zs⟩) := by
  have b0 : (kd == 0) = false := by simpa using h0
  have b1 : (kd == 1) = false := by simpa using h1
  have b2 : (kd == 2) = false := by simpa using h2
  have b3 : (kd == 3) = false := by simpa using h3
  have b4 : (kd == 4) = false := by simpa using h4
  have b5 : (kd == 5) = false := by simpa using h5
  have HT := Lib.hid ((Tch.refl fp w).alloc (stepObj kd ix am zs.length cm))
  clear h0 h1 h2 h3 h4 h5
  go_enter Try.func18, Try.ntmps18
  go_wp2
  go_ret
  exact ⟨false, rfl, by simp, fun _ => HT.out⟩

set_option maxHeartbeats 1000000 in
theorem sstep_wait (ix : Int) (am : Option Addr) (cm : Nat) (zs : List Int) (tb : Nat) (fp : List Nat) (N : Nat) (q : MSt × List Int) (w : World) (hN : N ≤ 90000) (h : SpAt w tb fp N q) :
    Calls Try.prog 18 #[ptr tb, stepVal 4 ix am zs.length cm] w (Stepped w tb fp N q ⟨4, ix, zs⟩) := by
  have t1 : Tch [] w (w.alloc (stepObj 4 ix am zs.length cm)) := (Tch.refl _ _).alloc _
  obtain ⟨va, vw, all, hd, hfp⟩ := h.tch t1
  have hwl := hd.wlen
  obtain ⟨c0, c1, c2, c3, fz⟩ := hd.td.facts
  obtain ⟨a, c, rfl⟩ := ownsRow_slice hd.td.wrow
  obtain ⟨i0, hi, hz0, hz1, hz2⟩ := info_parts Try.info28
  have f3 := fz 3
  have hbx := heap_alloc_new w (stepObj 4 ix am zs.length cm)
  generalize hW : w.alloc (stepObj 4 ix am zs.length cm) = W1 at *
  have b0 : W1.cell? ⟨w.heap.size, 0, none⟩ = some (.int .i64 4) := by rw [cell_of_row W1 _ _ _ 31 (0, 0) hbx]; rfl
  have b1 : W1.cell? ⟨w.heap.size, 1, none⟩ = some (.int .u64 ix) := by rw [cell_of_row W1 _ _ _ 31 (0, 0) hbx]; rfl
  have HK := Lib.hid (fun (Wp : World) (hWp : Wp.Alike (W1.alloc (.cells #[.int .u64 ix] 28))) (v' : Value) (w1 : World) ho hg hloc => wait_put (Wp := Wp) (x := ix) (v' := v') (w1 := w1) hd hfp hWp ho hg hloc)
  have HRW := Lib.hid hd.td.wrow
  have HW := Lib.hid hW
  have HT := Lib.hid t1
  have l1 := lt_of_obj hbx
  have l2 := lt_of_obj hd.td.str
  clear h hd hfp hW hbx fz c0 c1 c2 t1
  go_enter Try.func18, Try.ntmps18
  go_upto_region 1 with fail
  rw [HW.out]
  go_wp2_with fail
  go_region_law (refine step_append_own rfl (.tmp 63) (.tmp 66) 29 rfl 0 28 i0 (.int .u64 0) 1 8 Try.underlying29 hi hz0 hz1 hz2 rfl (by decide) (.slice a q.2.length c) _ _ (by simp [Act.eval]) (HRW.out.alloc _) ⟨W1.heap.size, 0, none⟩ 1 1 [.int .u64 ix] (by simp [Act.eval]) rfl (cell_one_new _ _ _) (by simp [Value.oneCell']) (by unfold maxLen; omega) (by omega) (Nat.zero_le _) ?_; intro v' w5 ho hg hloc; obtain ⟨n1, n2, a', c', rfl, hk⟩ := HK.out _ (by exact ⟨rfl, rfl, rfl⟩) v' w5 ho hg hloc; have HK2 := Lib.hid hk; clear hk ho hg hloc)
  all_goals (go_wp2_with fail; go_ret)
  all_goals exact ⟨true, rfl, fun _ => ⟨.inr (.inr (.inr (.inr (.inl rfl)))), by rw [stp_4]; exact (HK2.out.after HT.out).mono (by omega)⟩, by simp⟩

end Go.Proofs.Ytaheafmdkbobcaa
