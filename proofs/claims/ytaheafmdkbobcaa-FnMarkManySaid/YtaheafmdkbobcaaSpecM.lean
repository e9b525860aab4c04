/- spec's step over a list of indices that are done. -/
import Derived.Test.YtaheafmdkbobcaaSpecJ
namespace Go.Proofs.Ytaheafmdkbobcaa
open Go.RowKit

set_option maxRecDepth 100000

set_option maxHeartbeats 2000000 in
theorem sstep_dmany (ix : Int) (am : Option Addr) (cm : Nat) (zs : List Int) (tb : Nat) (fp : List Nat) (N : Nat) (q : MSt × List Int) (w : World) (hN : N + zs.length ≤ 90000) (h : SpAt w tb fp N q)
    (hm : am = none → cm = 0 ∧ zs.length = 0) (hr : ∀ ad, am = some ad → ∀ j, j < zs.length → ad.block < w.heap.size ∧ w.cell? (ad.add j) = some (.int .u64 (zs.getD j 0))) (hfr : ∀ ad, am = some ad → 0 < zs.length → ad.block ∉ fp) :
    Calls Try.prog 18 #[ptr tb, stepVal 3 ix am zs.length cm] w (Stepped w tb fp N q ⟨3, ix, zs⟩) := by
  have t1 : Tch [] w (w.alloc (stepObj 3 ix am zs.length cm)) := (Tch.refl _ _).alloc _
  obtain ⟨fp0, h0, hf0⟩ := h.shrink
  have hbx := heap_alloc_new w (stepObj 3 ix am zs.length cm)
  generalize hW : w.alloc (stepObj 3 ix am zs.length cm) = W1 at *
  have b1 : W1.cell? ⟨w.heap.size, 0, none⟩ = some (.int .i64 3) := by rw [cell_of_row W1 _ _ _ 31 (0, 0) hbx]; rfl
  have b2 : W1.cell? ⟨w.heap.size, 2, none⟩ = some (.slice am zs.length cm) := by rw [cell_of_row W1 _ _ _ 31 (0, 0) hbx]; rfl
  have hs0 : ManyAt W1 tb fp0 (N + 0) (nextMany q.1 (zs.take 0) true, q.2) (okMany q.1 (zs.take 0) true) W1 := ⟨⟨fp0, h0.tch t1, fun k hk => .inl hk⟩, Tch.refl _ _, trivial⟩
  have hbf : w.heap.size ∉ fp0 := fun hm => by have := (hf0 _ hm).2; omega
  have hzl : zs.length ≤ 90000 := by omega
  have HS0 := Lib.hid hs0
  have HW := Lib.hid hW
  have HT := Lib.hid t1
  have HBX := Lib.hid hbx
  have HBF := Lib.hid hbf
  have HR := Lib.hid hr
  have HM := Lib.hid hm
  have HF0 := Lib.hid hf0
  have HFR := Lib.hid hfr
  clear h h0 hf0 hW hbx t1 hs0 hbf hr hm hfr
  go_enter Try.func18, Try.ntmps18
  go_upto_region 1 with fail
  rw [HW.out]
  go_wp2_with fail
  go_loopg [28] zs.length (fun n s28 wr => ∃ (j : Nat), j ≤ zs.length ∧ n = zs.length - j ∧ s28 = .int .i64 j ∧ Hid (ManyAt W1 tb fp0 (N + j) (nextMany q.1 (zs.take j) true, q.2) (okMany q.1 (zs.take j) true) wr))
  case atStart => exact ⟨0, Nat.zero_le _, rfl, rfl, HS0.out⟩
  case round =>
    obtain ⟨j, hj, rfl, rfl, HMA⟩ := hrel
    have hbr := HMA.out.t.obj HBX.out HBF.out
    have d1 : wr.cell? ⟨w.heap.size, 0, none⟩ = some (.int .i64 3) := by rw [cell_of_row wr _ _ _ 31 (0, 0) hbr]; rfl
    have d2 : wr.cell? ⟨w.heap.size, 2, none⟩ = some (.slice am zs.length cm) := by rw [cell_of_row wr _ _ _ 31 (0, 0) hbr]; rfl
    have HBR := Lib.hid hbr
    clear hbr b1 b2 HS0
    by_cases hlt : j < zs.length
    · have hlt2 : (j : Int) < zs.length := by omega
      obtain ⟨ad, rfl⟩ : ∃ ad, am = some ad := by
        cases am with
        | none => have := (HM.out rfl).2; omega
        | some ad => exact ⟨ad, rfl⟩
      obtain ⟨ra, rb⟩ := HR.out ad rfl j hlt
      have hzc : wr.cell? (ad.add j) = some (.int .u64 (zs.getD j 0)) := by
        have e1 := HT.out.cell (p := ad.add j) (by rw [add_block]; exact ra) (by simp)
        have e2 := HMA.out.t.cell (p := ad.add j) (by rw [add_block]; exact Nat.lt_of_lt_of_le ra HT.out.size) (by rw [add_block]; exact fun hm => HFR.out ad rfl (by omega) (HF0.out _ hm).1)
        rw [e2, e1]; exact rb
      obtain ⟨⟨fpr, hsp, hfpr⟩, hta, hok⟩ := HMA.out
      have HC := Lib.hid (sfinish_any (zs.getD j 0) tb fpr (N + j) _ wr (by omega) hsp)
      have hnf : w.heap.size ∉ fpr := fun hm => by
        have h1 := lt_of_obj HBX.out
        rcases hfpr _ hm with h | h
        · exact HBF.out h
        · omega
      have HKB := Lib.hid (fun (w1 : World) (t : Tch fpr wr w1) => show w1.cell? ⟨w.heap.size, 0, none⟩ = some (.int .i64 3) from by rw [cell_of_row w1 _ _ _ 31 (0, 0) (t.obj HBR.out hnf)]; rfl)
      clear hnf
      have HFS := Lib.hid (many_step (s := q.1) (dn := true) hlt)
      have HTA := Lib.hid hta
      have HOKM := Lib.hid hok
      have HFPR := Lib.hid hfpr
      have HTK := Lib.hid (take_getD zs 0 hlt)
      clear ra rb hsp hfpr hta hok hlt HR HM HFR
      generalize hz : zs.getD j 0 = z at *
      have HZ := Lib.hid hz
      clear hz
      go_wp2_with (go_at_call 32; refine HC.out.mono ?_; rintro e w1 ⟨r, rfl, h1, h2⟩; have HA := Lib.hid h1; have HB := Lib.hid h2; cases r <;> first | (obtain ⟨-, fpx, -, -, tx⟩ := h1 rfl; have d3 := HKB.out _ tx; clear h1 h2 tx) | (clear h1 h2))
      · go_ret
        have hb : Tch [] wr w1 := by have := HB.out; simpa using this
        exact ⟨false, rfl, by simp, fun _ => ((HT.out.mono (T := fp) (by simp)).then HTA.out (fun i _ hm => (HF0.out i hm).1)).then hb (by simp)⟩
      · go_roundg (zs.length - (j + 1))
        case rel =>
          obtain ⟨o1, fp2, p1, p2, p3⟩ := (show _ ∧ LeavesT _ _ _ _ _ _ from by have := HA.out; simp only [true_implies] at this; exact this)
          refine ⟨j + 1, by omega, rfl, by go_num, ⟨⟨fp2, by rw [HFS.out]; exact p1.mono (by omega), fun k hk => ?_⟩, HTA.out.then p3 (fun i hi hm => ?_), by rw [HTK.out]; exact okMany_app HOKM.out ⟨fun _ => o1, by simp⟩⟩⟩
          · rcases p2 k hk with h | h
            · exact HFPR.out k h
            · exact .inr (Nat.le_trans HTA.out.size h)
          · rcases HFPR.out i hm with h | h
            · exact h
            · omega
        case measure => omega
    · obtain rfl : j = zs.length := by omega
      have HBR2 := Lib.hid (HMA.out)
      have hT : Tch fp w wr := (HT.out.mono (T := fp) (by simp)).then HMA.out.t (fun i _ hm => (HF0.out i hm).1)
      have HTT := Lib.hid hT
      clear hT hlt hj HMA
      go_wp2_with fail
      go_ret
      refine ⟨decide (0 < zs.length), rfl, fun hr => ?_, fun _ => HTT.out⟩
      have hz : 0 < zs.length := by simpa using hr
      obtain ⟨⟨fpr, hsp, hfpr⟩, hta, hok⟩ := HBR2.out
      rw [List.take_length] at hsp hok
      refine ⟨.inr (.inr (.inr (.inl ⟨rfl, hz, hok⟩))), fpr, ?_, fun k hk => ?_, HTT.out⟩
      · rw [stp_3]
        exact hsp.mono (by simp only; omega)
      · rcases hfpr k hk with h | h
        · exact .inl (HF0.out k h).1
        · exact .inr (Nat.le_trans HT.out.size h)

end Go.Proofs.Ytaheafmdkbobcaa
