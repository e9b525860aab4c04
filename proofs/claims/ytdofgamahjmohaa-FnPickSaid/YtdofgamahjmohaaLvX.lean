/- (*levelHandler).initTables. -/
import Derived.Test.YtdofgamahjmohaaLvW
namespace Go.Proofs.Ytdofgamahjmohaa
open Go.Shelf Go.RowKit
set_option maxRecDepth 100000

structure InitAt (W1 wr : World) (h : Nat) (A : Option Addr) (n c : Nat) (ps : List (Nat × Tb)) (k : Nat) (lvl : Int) (op : Value) : Prop where
  hh : HCells wr h A n c (tsum Tb.bytes ((ps.map (·.2)).take k)) (tsum Tb.stale ((ps.map (·.2)).take k)) lvl op
  t : Tch [h] W1 wr

set_option maxHeartbeats 2000000 in
theorem initTables_any (h n0 c0 n c : Nat) (A0 A : Option Addr) (ps : List (Nat × Tb)) (tot stl lvl : Int) (op : Value) (W : World) (hh : HCells W h A0 n0 c0 tot stl lvl op) (hp : PtsV W A n c ps) (hf : ∀ p ∈ ps, p.2.fine) (h30 : n ≤ 30) (hs : InOrd (decide (lvl = 0)) (ps.map (·.2))) :
    Calls Try.prog 52 #[ptr h, .slice A n c] W fun e w' => e = .returned (.tuple #[]) ∧ HCells w' h A n c (tsum Tb.bytes (ps.map (·.2))) (tsum Tb.stale (ps.map (·.2))) lvl op ∧ Tch [h] W w' := by
  have hlt := lt_of_obj hh.out
  have T1 : Tch [] W (W.alloc (.cells #[ptr h] 104)) := (Tch.refl [] W).alloc _
  have hbx : (W.alloc (.cells #[ptr h] 104)).heap[W.heap.size]? = some (.cells #[ptr h] 104 (0, 0)) := by rw [heap_get_alloc, if_pos rfl]
  have hpl := hp.len
  generalize hW : W.alloc (.cells #[ptr h] 104) = W1 at *
  have hh1 : HCells W1 h A0 n0 c0 tot stl lvl op := ⟨T1.obj hh.out (by simp)⟩
  have hp1 := hp.tch T1
  have hne : W.heap.size ≠ h := by omega
  have hne2 : ¬ h = W.heap.size := by omega
  have hb0 : W1.cell? ⟨W.heap.size, 0, none⟩ = some (ptr h) := by rw [cell_of_row W1 _ _ _ 104 (0, 0) hbx]; rfl
  obtain ⟨x0, x1, x2, x3, x4⟩ := hh1.c
  have fz : ∀ i, W1.frozen? ⟨h, i, none⟩ = false := fun i => by
    have := hh1.out
    simp only [World.frozen?, this]
    first | rfl | simp
  have f0 := fz 0
  have f1 := fz 1
  have f2 := fz 2
  have HST : Hid (InitAt W1 (((W1.setCell ⟨h, 0, none⟩ (.slice A n c)).setCell ⟨h, 1, none⟩ (.int .i64 0)).setCell ⟨h, 2, none⟩ (.int .i64 0)) h A n c ps 0 lvl op) := by
    have k1 : HCells (W1.setCell ⟨h, 0, none⟩ (.slice A n c)) h A n c tot stl lvl op := ⟨by rw [hh1.set]; rfl⟩
    have k2 : HCells ((W1.setCell ⟨h, 0, none⟩ (.slice A n c)).setCell ⟨h, 1, none⟩ (.int .i64 0)) h A n c 0 stl lvl op := ⟨by rw [k1.set]; rfl⟩
    refine ⟨⟨?_⟩, (((Tch.refl _ _).setCell (p := ⟨h, 0, none⟩) (fun _ => by simp) _).setCell (p := ⟨h, 1, none⟩) (fun _ => by simp) _).setCell (p := ⟨h, 2, none⟩) (fun _ => by simp) _⟩
    rw [k2.set]; rfl
  have hS : ∀ b ∈ [h], ∃ cur fr, W1.heap[b]? = some (.cells cur 123 fr) := fun b hm => by
    obtain rfl := List.mem_singleton.1 hm
    exact ⟨_, _, hh1.out⟩
  have HPK := Lib.hid (fun (w' : World) (t : Tch [h] W1 w') => hp1.keep t hS (by decide) (by decide) (by decide))
  have HBK := Lib.hid (fun (w' : World) (t : Tch [h] W1 w') => t.obj hbx (by simpa using hne))
  have HW := Lib.hid hW
  have HT1 := Lib.hid T1
  have HF := Lib.hid hf
  have HS := Lib.hid hs
  have HPL := Lib.hid hpl
  have h30i : (n : Int) ≤ 30 := by omega
  clear hh hp hf hs hW T1 hh1 hp1 hS fz hbx hpl
  go_enter Try.func52, Try.ntmps52
  go_upto_region 1 with fail
  rw [HW.out]
  go_wp2_with fail
  go_loopg [18] n (fun nn s18 wr => ∃ k : Nat, k ≤ n ∧ nn = n - k ∧ s18 = .int .i64 k ∧ Hid (InitAt W1 wr h A n c ps k lvl op))
  case atStart => exact ⟨0, Nat.zero_le _, rfl, rfl, HST.out⟩
  case round =>
    obtain ⟨k, hk, rfl, rfl, HR⟩ := hrel
    have hb1 : wr.cell? ⟨W.heap.size, 0, none⟩ = some (ptr h) := by rw [cell_of_row wr _ _ _ 104 (0, 0) (HBK.out wr HR.out.t)]; rfl
    clear hb0 x0 x1 x2 x3 x4 f0 f1 f2
    by_cases hlt : k < n
    · have hlt2 : (k : Int) < n := by omega
      have hpr := HPK.out wr HR.out.t
      cases A with
      | none =>
        obtain ⟨g, cap, e, -⟩ := ownsRow_value hpr.row (by omega)
        simp at e
      | some ad =>
      have hkp : k < ps.length := by have := HPL.out; omega
      have hcl := (own_cell hpr.row (j := k) (u := ptr (ps.getD k default).1) (by simp [List.getD, List.getElem?_eq_getElem hkp])).2
      have hmem : ps.getD k default ∈ ps := by simp [List.getD, hkp]
      have hb := hpr.box _ hmem
      have hB1 := tsum_bound (f := Tb.bytes) (B := 1099511627776) (ts := (ps.map (·.2)).take k) (fun t ht => by
        obtain ⟨p, hp, rfl⟩ := List.mem_map.1 (List.mem_of_mem_take ht)
        have := HF.out p hp
        unfold Tb.fine at this
        omega)
      have hB2 := tsum_bound (f := Tb.stale) (B := 4294967295) (ts := (ps.map (·.2)).take k) (fun t ht => by
        obtain ⟨p, hp, rfl⟩ := List.mem_map.1 (List.mem_of_mem_take ht)
        have := (hpr.box p hp).2.ok.stale
        unfold okU32 at this
        exact this)
      have hlen : ((ps.map (·.2)).take k).length ≤ 30 := by rw [List.length_take]; omega
      have hm1 : (((ps.map (·.2)).take k).length : Int) * 1099511627776 ≤ 30 * 1099511627776 := by omega
      have hm2 : (((ps.map (·.2)).take k).length : Int) * 4294967295 ≤ 30 * 4294967295 := by omega
      have HA := Lib.hid (addSize_any h (ps.getD k default).1 (ps.getD k default).2 (some ad) n c _ _ lvl op wr HR.out.hh hb.1 hb.2 (HF.out _ hmem) hB1.1 (by omega) hB2.1 (by omega))
      have e1 := tsum_succ (f := Tb.bytes) hkp
      have e2 := tsum_succ (f := Tb.stale) hkp
      rw [← e1, ← e2] at HA
      generalize (ps.getD k default).1 = gk at *
      clear hpr hmem hb hB1 hB2 hlen hm1 hm2 e1 e2 hkp
      go_wp2_with (go_at_call 64; refine HA.out.mono ?_; rintro e w5 ⟨rfl, q1, q2⟩; have Q1 := Lib.hid q1; have Q2 := Lib.hid q2; clear q1 q2)
      go_roundg (n - (k + 1))
      case rel => exact ⟨k + 1, by omega, rfl, by go_num, Q1.out, HR.out.t.trans Q2.out⟩
      case measure => omega
    · obtain rfl : k = n := by omega
      obtain ⟨y0, y1, y2, y3, y4⟩ := HR.out.hh.c
      have HSA := Lib.hid (sort_any wr h k c W.heap.size A ps _ _ lvl op (decide (lvl = 0)) (HPK.out wr HR.out.t) HR.out.hh (HBK.out wr HR.out.t) (by omega) HS.out)
      have HFIN : Hid (∀ w' : World, Tch [] wr w' → HCells w' h A k c (tsum Tb.bytes (ps.map (·.2))) (tsum Tb.stale (ps.map (·.2))) lvl op ∧ Tch [h] W w') := Lib.hid (fun w' t => by
        have h1 := HR.out.hh
        rw [List.take_of_length_le (by rw [List.length_map]; have := HPL.out; omega)] at h1
        exact ⟨⟨t.obj h1.out (by simp)⟩, (HT1.out.mono (fun _ _ hm => by simp at hm)).trans (HR.out.t.trans (t.mono (fun _ _ hm => by simp at hm)))⟩)
      by_cases hl : lvl = 0
      · subst hl
        have HSB : Hid _ := HSA
        rw [show decide ((0 : Int) = 0) = true from rfl, if_pos rfl] at HSB
        clear HSA hlt
        go_wp2_with (go_at_call 65; refine HSB.out.mono ?_; rintro e w5 ⟨rfl, q1⟩; have Q1 := Lib.hid q1; clear q1)
        go_end0
        exact ⟨rfl, HFIN.out _ Q1.out⟩
      · have b1 : decide (lvl = 0) = false := by simpa using hl
        have b2 : (lvl == 0) = false := by simpa using hl
        have HSB : Hid _ := HSA
        rw [b1, if_neg (by simp)] at HSB
        clear HSA hlt
        go_wp2_with (go_at_call 65; refine HSB.out.mono ?_; rintro e w5 ⟨rfl, q1⟩; have Q1 := Lib.hid q1; clear q1)
        go_end0
        exact ⟨rfl, HFIN.out _ Q1.out⟩

end Go.Proofs.Ytdofgamahjmohaa
