/- spec.total. -/
import Derived.Test.YtdofgamahjmohaaLwA
namespace Go.Proofs.Ytdofgamahjmohaa
open Go.RowKit
set_option maxRecDepth 100000

theorem tsum_take {f : Tb → Int} {ts : List Tb} {k : Nat} (h : k < ts.length) : tsum f (ts.take (k + 1)) = tsum f (ts.take k) + f (ts.getD k default) := by
  unfold tsum
  rw [take_getD _ default h, List.map_append, List.sum_append]
  simp

set_option maxHeartbeats 1000000 in
theorem spec_total_any (ts : List Tb) (ta : Option Addr) (c : Nat) (w : World) (h : TabsAt w ts ta c) (h30 : ts.length ≤ 30) (hf : ∀ t ∈ ts, t.fine) :
    Calls Try.prog 39 #[.slice ta ts.length c] w fun e w' => e = .returned (.int .i64 (tsum Tb.bytes ts)) ∧ Tch [] w w' := by
  have HST := Lib.hid h
  have HF := Lib.hid hf
  have HT0 := Lib.hid (Tch.refl [] w)
  have h30i : (ts.length : Int) ≤ 30 := by omega
  clear h hf
  go_enter Try.func39, Try.ntmps39
  go_wp2_with fail
  go_loopg [3, 8] ts.length (fun nn s3 s8 wr => ∃ (k : Nat) (s : Int), k ≤ ts.length ∧ nn = ts.length - k ∧ s3 = .int .i64 s ∧ s8 = .int .i64 k ∧ Hid (s = tsum Tb.bytes (ts.take k) ∧ Tch [] w wr))
  case atStart => exact ⟨0, 0, Nat.zero_le _, rfl, rfl, rfl, rfl, HT0.out⟩
  case round =>
    obtain ⟨k, s, hk, rfl, rfl, rfl, HR⟩ := hrel
    by_cases hlt : k < ts.length
    · have hlt2 : (k : Int) < ts.length := by omega
      cases ta with
      | none => have h0 := (HST.out.nil rfl).2; rw [h0] at hlt; exact absurd hlt (by simp)
      | some a =>
      obtain ⟨a1, c1, a2, c2, hc⟩ := (HST.out.tch HR.out.2).at' a rfl k hlt
      have hB := tsum_bound (f := Tb.bytes) (B := 1099511627776) (ts := ts.take k) (fun t ht => by
        have := HF.out t (List.mem_of_mem_take ht)
        unfold Tb.fine at this
        omega)
      have hfk := HF.out (ts.getD k default) (by simp [List.getD, hlt])
      unfold Tb.fine at hfk
      have hl30 : (ts.take k).length ≤ 30 := by rw [List.length_take]; omega
      have hlen : ((ts.take k).length : Int) * 1099511627776 ≤ 30 * 1099511627776 := by omega
      have hw := wrapI (v := s + (ts.getD k default).bytes) (by rw [HR.out.1]; omega) (by rw [HR.out.1]; omega)
      have hs := tsum_take (f := Tb.bytes) hlt
      rw [← HR.out.1] at hs
      generalize ts.getD k default = p at *
      obtain ⟨num, t1, ⟨l1, v1⟩, t2, ⟨l2, v2⟩, bytes, ver, stale, age⟩ := p
      obtain ⟨⟨x0, x1, x2, x3, x4, x5, x6⟩, x7, x8, x9, x10⟩ := hc.all
      have hw : IntKind.i64.wrap (s + bytes) = s + bytes := hw
      have HS := Lib.hid (show s + bytes = tsum Tb.bytes (ts.take (k + 1)) from hs.symm)
      have HLT := Lib.hid hlt
      clear hc hB hfk hlen hl30 hs hlt
      go_wp2_with fail
      go_roundg (ts.length - (k + 1))
      case rel => exact ⟨k + 1, s + bytes, by have := HLT.out; omega, rfl, rfl, by go_num, HS.out, HR.out.2.alloc _⟩
      case measure => have := HLT.out; omega
    · obtain rfl : k = ts.length := by omega
      have HS : Hid (s = tsum Tb.bytes ts) := by have := HR.out.1; rw [List.take_length] at this; exact this
      clear hlt hk HST
      go_wp2_with fail
      go_ret
      exact ⟨by rw [HS.out]; rfl, HR.out.2⟩

end Go.Proofs.Ytdofgamahjmohaa
