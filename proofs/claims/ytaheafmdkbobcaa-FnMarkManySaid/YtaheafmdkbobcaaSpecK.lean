/- The guards of the laws: the steps fit, and are few. -/
import Derived.Test.YtaheafmdkbobcaaLit
namespace Go.Proofs.Ytaheafmdkbobcaa
open Go.RowKit

def Guard (w : World) (P : Prop) (e : Ending) (w' : World) : Prop := ∃ b : Bool, e = .returned (.bool b) ∧ (b = true → P) ∧ Tch [] w w'

theorem fits1_any (kd ix : Int) (am : Option Addr) (n cm : Nat) (w : World) :
    Calls Try.prog 17 #[.agg #[.int .i64 kd, .int .u64 ix, .slice am n cm]] w (Guard w (n ≤ 2147483647)) := by
  have HT := Lib.hid ((Tch.refl [] w).alloc (.cells #[.int .i64 kd, .int .u64 ix, .slice am n cm] 31))
  by_cases h : (2147483647 : Int) < n
  · have t0 : decide ((2147483647 : Int) < n) = true := by simpa using h
    clear h
    go_enter Try.func17, Try.ntmps17
    go_wp2
    go_ret
    exact ⟨false, rfl, by simp, HT.out⟩
  · have HN := Lib.hid (show n ≤ 2147483647 by omega)
    have t0 : decide ((2147483647 : Int) < n) = false := by simpa using h
    clear h
    go_enter Try.func17, Try.ntmps17
    go_wp2
    go_ret
    exact ⟨true, rfl, fun _ => HN.out, HT.out⟩

set_option maxHeartbeats 1000000 in
theorem fits_any (L : List Stp) (sa : Option Addr) (cz : Nat) (w : World) (hst : StepsAt w sa L) :
    Calls Try.prog 12 #[.slice sa L.length cz] w (Guard w (∀ i, i < L.length → (L.getD i default).many.length ≤ 2147483647)) := by
  have HST := Lib.hid hst
  have HT0 := Lib.hid (Tch.refl [] w)
  clear hst
  by_cases hbig : (2147483647 : Int) < L.length
  · have t0 : decide ((2147483647 : Int) < L.length) = true := by simpa using hbig
    clear hbig
    go_enter Try.func12, Try.ntmps12
    go_wp2
    go_ret
    exact ⟨false, rfl, by simp, HT0.out⟩
  have t0 : decide ((2147483647 : Int) < L.length) = false := by simpa using hbig
  have hb2 : (L.length : Int) ≤ 2147483647 := by omega
  clear hbig
  go_enter Try.func12, Try.ntmps12
  go_wp2_with fail
  go_loopg [10] L.length (fun n s10 wr => ∃ k : Nat, k ≤ L.length ∧ n = L.length - k ∧ s10 = .int .i64 k ∧ Hid ((∀ i, i < k → (L.getD i default).many.length ≤ 2147483647) ∧ Tch [] w wr))
  case atStart => exact ⟨0, Nat.zero_le _, rfl, rfl, fun i hi => absurd hi (Nat.not_lt_zero i), HT0.out⟩
  case round =>
    obtain ⟨k, hk, rfl, rfl, HR⟩ := hrel
    by_cases hlt : k < L.length
    · have hlt2 : (k : Int) < L.length := by omega
      obtain ⟨a, rfl, hsa⟩ := HST.out k hlt
      have hsa := hsa.tch HR.out.2
      generalize hp : L.getD k default = p at *
      obtain ⟨kd, ix, zs⟩ := p
      obtain ⟨am, cm, m1, m2, m3⟩ := hsa.many
      have k0 : wr.cell? (a.add (k * 3)) = some (.int .i64 kd) := hsa.kind
      have k1 : wr.cell? ⟨(a.add (k * 3)).block, (a.add (k * 3)).off + 1, none⟩ = some (.int .u64 ix) := hsa.idx
      have m1 : wr.cell? ⟨(a.add (k * 3)).block, (a.add (k * 3)).off + 2, none⟩ = some (.slice am zs.length cm) := m1
      have HP := Lib.hid hp
      clear hp m2 m3 hsa
      go_wp2_with (go_at_call 17; refine (fits1_any _ _ _ _ _ _).mono ?_; rintro e w5 ⟨b, rfl, h1, h2⟩; have H1 := Lib.hid h1; have H2 := Lib.hid h2; clear h1 h2; cases b)
      all_goals first
        | (go_ret; exact ⟨false, rfl, by simp, (HR.out.2.trans ((Tch.refl _ _).alloc _)).trans H2.out⟩)
        | (go_roundg (L.length - (k + 1)))
      case rel =>
        refine ⟨k + 1, by omega, rfl, by go_num, fun i hi => ?_, (HR.out.2.trans ((Tch.refl _ _).alloc _)).trans H2.out⟩
        by_cases e : i = k
        · rw [e, HP.out]
          have := H1.out
          simpa using this
        · exact HR.out.1 i (by omega)
      case measure => omega
    · obtain rfl : k = L.length := by omega
      clear hlt hk HST
      go_wp2_with fail
      go_ret
      exact ⟨true, rfl, fun _ => HR.out.1, HR.out.2⟩

set_option maxHeartbeats 1000000 in
theorem small_any (L : List Stp) (sa : Option Addr) (cz : Nat) (w : World) (hst : StepsAt w sa L) (hf : ∀ i, i < L.length → (L.getD i default).many.length ≤ 2147483647) :
    Calls Try.prog 13 #[.slice sa L.length cz] w (Guard w (L.length ≤ 1000 ∧ wt L ≤ 2000)) := by
  have HST := Lib.hid hst
  have HF := Lib.hid hf
  have HT0 := Lib.hid (Tch.refl [] w)
  clear hst hf
  by_cases hbig : (1000 : Int) < L.length
  · have t0 : decide ((1000 : Int) < L.length) = true := by simpa using hbig
    clear hbig
    go_enter Try.func13, Try.ntmps13
    go_wp2
    go_ret
    exact ⟨false, rfl, by simp, HT0.out⟩
  have t0 : decide ((1000 : Int) < L.length) = false := by simpa using hbig
  have hb2 : (L.length : Int) ≤ 1000 := by omega
  clear hbig
  go_enter Try.func13, Try.ntmps13
  go_wp2_with fail
  go_loopg [3, 11] L.length (fun n s3 s11 wr => ∃ (k m : Nat), k ≤ L.length ∧ n = L.length - k ∧ s11 = .int .i64 k ∧ s3 = .int .i64 m ∧ m ≤ 2000 ∧ Hid (m = wt (L.take k) ∧ Tch [] w wr))
  case atStart => exact ⟨0, 0, Nat.zero_le _, rfl, rfl, rfl, by omega, rfl, HT0.out⟩
  case round =>
    obtain ⟨k, m, hk, rfl, rfl, rfl, hm, HR⟩ := hrel
    by_cases hlt : k < L.length
    · have hlt2 : (k : Int) < L.length := by omega
      obtain ⟨a, rfl, hsa⟩ := HST.out k hlt
      have hsa := hsa.tch HR.out.2
      have hw := wt_succ hlt
      have hfk := HF.out k hlt
      generalize hp : L.getD k default = p at *
      obtain ⟨kd, ix, zs⟩ := p
      obtain ⟨am, cm, m1, m2, m3⟩ := hsa.many
      have k0 : wr.cell? (a.add (k * 3)) = some (.int .i64 kd) := hsa.kind
      have k1 : wr.cell? ⟨(a.add (k * 3)).block, (a.add (k * 3)).off + 1, none⟩ = some (.int .u64 ix) := hsa.idx
      have m1 : wr.cell? ⟨(a.add (k * 3)).block, (a.add (k * 3)).off + 2, none⟩ = some (.slice am zs.length cm) := m1
      have hz : (zs.length : Int) ≤ 2147483647 := by have : zs.length ≤ 2147483647 := hfk; omega
      have hm2 : (m : Int) ≤ 2000 := by omega
      have HW := Lib.hid (show wt (L.take (k + 1)) = m + (1 + zs.length) by rw [hw, ← HR.out.1])
      clear hp m2 m3 hsa hw hfk
      by_cases hc : (2000 : Int) < (m : Int) + (1 + (zs.length : Int))
      · have t1 : decide ((2000 : Int) < (m : Int) + (1 + (zs.length : Int))) = true := by simpa using hc
        clear hc
        go_wp2_with fail
        go_ret
        exact ⟨false, rfl, by simp, HR.out.2.trans ((Tch.refl _ _).alloc _)⟩
      · have t1 : decide ((2000 : Int) < (m : Int) + (1 + (zs.length : Int))) = false := by simpa using hc
        have hc2 : m + (1 + zs.length) ≤ 2000 := by omega
        clear hc
        go_wp2_with fail
        go_roundg (L.length - (k + 1))
        case rel => exact ⟨k + 1, m + (1 + zs.length), by omega, rfl, by go_num, by go_num, hc2, HW.out.symm, HR.out.2.trans ((Tch.refl _ _).alloc _)⟩
        case measure => omega
    · obtain rfl : k = L.length := by omega
      have hw := HR.out.1
      rw [List.take_length] at hw
      have HW := Lib.hid (show wt L ≤ 2000 by omega)
      have HL := Lib.hid (show L.length ≤ 1000 by omega)
      clear hlt hk HST hw
      go_wp2_with fail
      go_ret
      exact ⟨true, rfl, fun _ => ⟨HL.out, HW.out⟩, HR.out.2⟩

end Go.Proofs.Ytaheafmdkbobcaa
