/- spec.SameSizes. -/
import Derived.Test.YtdofgamahjmohaaLwB
namespace Go.Proofs.Ytdofgamahjmohaa
open Go.RowKit
set_option maxRecDepth 100000

/-- Whole numbers in memory, as a slice. -/
structure IAt (w : World) (xs : List Int) (a : Option Addr) : Prop where
  nil : a = none → xs = []
  cell : ∀ ad, a = some ad → ∀ j, j < xs.length → ad.block < w.heap.size ∧ w.cell? (ad.add j) = some (.int .i64 (xs.getD j 0))
theorem IAt.tch {w w' : World} {xs : List Int} {a : Option Addr} (h : IAt w xs a) (t : Tch [] w w') : IAt w' xs a :=
  ⟨h.nil, fun ad e j hj => ⟨Nat.lt_of_lt_of_le (h.cell ad e j hj).1 t.size, by rw [t.cell (by rw [add_block]; exact (h.cell ad e j hj).1) (by simp)]; exact (h.cell ad e j hj).2⟩⟩

set_option maxHeartbeats 1000000 in
/-- Equal lists of numbers are told so. -/
theorem same_any (xs : List Int) (a b : Option Addr) (c d : Nat) (w : World) (h : IAt w xs a) (k : IAt w xs b) (hl : xs.length ≤ 100) :
    Calls Try.prog 33 #[.slice a xs.length c, .slice b xs.length d] w fun e w' => e = .returned (.bool true) ∧ Tch [] w w' := by
  have HA := Lib.hid h
  have HB := Lib.hid k
  have HT0 := Lib.hid (Tch.refl [] w)
  have hli : (xs.length : Int) ≤ 100 := by omega
  clear h k
  go_enter Try.func33, Try.ntmps33
  go_wp2_with fail
  go_loopg [14] xs.length (fun nn s14 wr => ∃ k : Nat, k ≤ xs.length ∧ nn = xs.length - k ∧ s14 = .int .i64 k ∧ Hid (Tch [] w wr))
  case atStart => exact ⟨0, Nat.zero_le _, rfl, rfl, HT0.out⟩
  case round =>
    obtain ⟨k, hk, rfl, rfl, HR⟩ := hrel
    by_cases hlt : k < xs.length
    · have hlt2 : (k : Int) < xs.length := by omega
      cases a with
      | none => have h0 := HA.out.nil rfl; rw [h0] at hlt; exact absurd hlt (by simp)
      | some ad =>
      cases b with
      | none => have h0 := HB.out.nil rfl; rw [h0] at hlt; exact absurd hlt (by simp)
      | some bd =>
      have x := ((HA.out.tch HR.out).cell ad rfl k hlt).2
      have y := ((HB.out.tch HR.out).cell bd rfl k hlt).2
      generalize xs.getD k 0 = z at *
      have HLT := Lib.hid hlt
      clear hlt
      go_wp2_with fail
      go_roundg (xs.length - (k + 1))
      case rel => exact ⟨k + 1, by have := HLT.out; omega, rfl, by go_num, HR.out⟩
      case measure => have := HLT.out; omega
    · obtain rfl : k = xs.length := by omega
      clear hlt hk HA HB
      go_wp2_with fail
      go_ret
      exact ⟨rfl, HR.out⟩

end Go.Proofs.Ytdofgamahjmohaa
