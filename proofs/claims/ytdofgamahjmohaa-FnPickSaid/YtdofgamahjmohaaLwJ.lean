/- spec.AreFiles. -/
import Derived.Test.YtdofgamahjmohaaLwI
namespace Go.Proofs.Ytdofgamahjmohaa
open Go.RowKit Go.Deep
set_option maxRecDepth 100000

set_option maxHeartbeats 2000000 in
theorem files_any (m b : Nat) (o : Op) (a : Option Addr) (c : Nat) (w : World) (ho : OpOk (m + 2) o) (h1 : 1 ≤ b) (h : IAt w ((List.range (m + 2)).map (fsz o.tt o.bt o.mt b)) a) :
    Calls Try.prog 35 #[.slice a (m + 2) c, opV o, .int .i64 b] w fun e w' => e = .returned (.bool true) ∧ Tch [] w w' := by
  have hlv := ho.lv
  have n7 := ho.n7
  have mi : (m : Int) ≤ 5 := by omega
  obtain ⟨lv, lt, tt, zt, bl, bt, mt, di⟩ := o
  have HTT := Lib.hid (show 1 ≤ tt ∧ tt ≤ 4 from ⟨ho.tt1, ho.tt2⟩)
  have HBT := Lib.hid (show 1 ≤ bt ∧ bt ≤ 1099511627776 from ⟨ho.bt1, ho.bt2⟩)
  have hlv2 : lv = (m : Int) + 2 := by have : lv = ((m + 2 : Nat) : Int) := hlv; omega
  clear hlv
  subst hlv2
  cases a with
  | none => have := h.nil rfl; simp at this
  | some ad =>
  have hc : ∀ j, j < m + 2 → ad.block < w.heap.size ∧ w.cell? (ad.add j) = some (.int .i64 (fsz tt bt mt b j)) := fun j hj => by
    have := h.cell ad rfl j (by simpa using hj)
    have e2 : ((List.range (m + 2)).map (fsz tt bt mt b)).getD j 0 = fsz tt bt mt b j := by simp [List.getD, hj]
    rw [e2] at this
    exact this
  have T0 : Tch [] w (w.alloc (.cells (opA ((m : Int) + 2) lt tt zt bl bt mt di) 32)) := (Tch.refl _ _).alloc _
  have HT0 := Lib.hid T0
  have HBX := Lib.hid (fun (w' : World) (t : Tch [] (w.alloc (.cells (opA ((m : Int) + 2) lt tt zt bl bt mt di) 32)) w') (i : Nat) (v : Value) (hv : (opA ((m : Int) + 2) lt tt zt bl bt mt di)[i]? = some v) => (show w'.cell? ⟨w.heap.size, i, none⟩ = some v by
    rw [cell_of_row w' _ _ _ 32 (0, 0) (t.obj (alloc_at rfl) (by simp))]; exact hv))
  have HC := Lib.hid (fun (w' : World) (t : Tch [] w w') (j : Nat) (hj : j < m + 2) => (t.cell (p := ad.add j) (by rw [add_block]; exact (hc j hj).1) (by simp)).trans (hc j hj).2)
  have x0 := HC.out _ T0 0 (by omega)
  have e0 : ad.add 0 = ad := by unfold Addr.add; simp
  rw [e0] at x0
  rw [show fsz tt bt mt b 0 = mt from rfl] at x0
  have o0 := HBX.out _ (Tch.refl _ _) 0 _ rfl
  have o6 := HBX.out _ (Tch.refl _ _) 6 _ rfl
  have o5 := HBX.out _ (Tch.refl _ _) 5 _ rfl
  have hz1 : (0 : Int) < (m : Int) + 2 := by omega
  have H1 := Lib.hid h1
  clear h ho n7 hc T0 e0 h1
  go_enter Try.func35, Try.ntmps35
  go_upto_region 1 with fail
  go_quiet (fail)
  go_wp2_with fail
  clear x0 o0 o5 o6
  go_loopg [7, 8] (m + 1) (fun nn s7 s8 wr => ∃ i : Nat, i ≤ m + 2 ∧ nn = m + 2 - i ∧ s7 = .int .i64 (bt * tt ^ (i - 1 - b)) ∧ s8 = .int .i64 i ∧ Hid (1 ≤ i ∧ Tch [] (w.alloc (.cells (opA ((m : Int) + 2) lt tt zt bl bt mt di) 32)) wr))
  case atStart => exact ⟨1, by omega, rfl, by simp, by go_num, Nat.le_refl _, (Tch.refl _ _).drewN _⟩
  case round =>
    obtain ⟨i, hi, rfl, rfl, rfl, HR⟩ := hrel
    by_cases hlt : i < m + 2
    · have hlt2 : (i : Int) < (m : Int) + 2 := by omega
      have x := HC.out _ (HT0.out.trans HR.out.2) i hlt
      have o2 := HBX.out _ HR.out.2 2 _ rfl
      have HLT := Lib.hid hlt
      obtain ⟨q, hq⟩ : ∃ q, i = q + 1 := ⟨i - 1, by have := HR.out.1; omega⟩
      have hf : fsz tt bt mt b i = bt * tt ^ (i - b) := by rw [hq]; rfl
      rw [hf] at x
      clear hlt
      by_cases hle : i ≤ b
      · have hle2 : (i : Int) ≤ (b : Int) := by omega
        have e1 : i - 1 - b = 0 := by omega
        have e2 : i - b = 0 := by omega
        have e3 : i + 1 - 1 - b = 0 := by omega
        have HE := Lib.hid (show bt * tt ^ (i - 1 - b) = bt * tt ^ (i + 1 - 1 - b) by rw [e1, e3])
        rw [show bt * tt ^ (i - b) = bt * tt ^ (i - 1 - b) by rw [e1, e2]] at x
        generalize bt * tt ^ (i - 1 - b) = ts at *
        clear e1 e2 e3 hle hq hf
        go_wp2_with fail
        go_roundg (m + 2 - (i + 1))
        case rel => exact ⟨i + 1, by have := HLT.out; omega, rfl, by rw [HE.out], by go_num, by omega, HR.out.2⟩
        case measure => have := HLT.out; omega
      · have hle2 : (b : Int) < (i : Int) := by omega
        have e1 : i + 1 - 1 - b = i - 1 - b + 1 := by omega
        have e3 : i - b = i - 1 - b + 1 := by omega
        have hbd := fs_bound HTT.out HBT.out (i := i - 1 - b + 1) (by have := HLT.out; omega)
        have hw : IntKind.i64.wrap (bt * tt ^ (i - 1 - b) * tt) = bt * tt ^ (i - 1 - b) * tt := by
          rw [Int.pow_succ, ← Int.mul_assoc] at hbd
          exact wrapT (by omega) (by omega)
        have HE := Lib.hid (show bt * tt ^ (i - 1 - b) * tt = bt * tt ^ (i + 1 - 1 - b) by rw [e1, Int.pow_succ, Int.mul_assoc])
        rw [show bt * tt ^ (i - b) = bt * tt ^ (i - 1 - b) * tt by rw [e3, Int.pow_succ, Int.mul_assoc]] at x
        generalize bt * tt ^ (i - 1 - b) = ts at *
        clear e1 e3 hle hbd hq hf
        go_wp2_with fail
        go_roundg (m + 2 - (i + 1))
        case rel => exact ⟨i + 1, by have := HLT.out; omega, rfl, by rw [HE.out], by go_num, by omega, HR.out.2⟩
        case measure => have := HLT.out; omega
    · obtain rfl : i = m + 2 := by omega
      clear hlt
      go_wp2_with fail
      go_ret
      exact ⟨rfl, HT0.out.trans HR.out.2⟩

end Go.Proofs.Ytdofgamahjmohaa
