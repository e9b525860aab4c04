/- zzIndex, zzSplit. -/
import Derived.Test.YtcolffccbmpndaaGreatDoorIgP
import Derived.WalkSpells
namespace Go.Proofs.YtcolffccbmpndaaGreatDoor
open Go.RowKit Go.Deep
set_option maxRecDepth 100000

theorem wrapT {v : Int} (h1 : -9223372036854775808 ≤ v) (h2 : v ≤ 9223372036854775807) : IntKind.i64.wrap v = v := by
  simp only [IntKind.wrap, IntKind.bits, IntKind.signed]
  simp
  omega

set_option maxHeartbeats 1000000 in
theorem zzIndex_any (l : List UInt8) (c : UInt8) (w : World) (hl : l.length ≤ 4611686018427387904) :
    Calls Tryz.prog 77 #[.string (bs l), .string (bs [c])] w fun e w' => ∃ r, e = .returned (.int .i64 r) ∧ IsAt c l r ∧ w' = w := by
  have hs := bs_size l
  have hc := bs_size [c]
  go_enter Tryz.func77, Tryz.ntmps77
  go_wp2_with fail
  go_loopg [5] l.length (fun nn s5 wr => ∃ i : Nat, i ≤ l.length ∧ nn = l.length - i ∧ s5 = .int .i64 i ∧ Hid ((∀ b ∈ l.take i, b ≠ c) ∧ wr = w))
  case atStart => exact ⟨0, Nat.zero_le _, rfl, rfl, by simp, rfl⟩
  case round =>
    obtain ⟨i, hi, rfl, rfl, HR⟩ := hrel
    by_cases hlt : i < l.length
    · have hlt2 : (i : Int) + 1 ≤ (l.length : Int) := by omega
      have hd : (l.take (i + 1)).drop i = [l.getD i 0] := by
        rw [take_getD l 0 hlt, List.drop_append]
        simp [List.length_take, Nat.min_eq_left hi]
      have hx := bs_extract l i (i + 1)
      rw [hd] at hx
      have hsp : l = l.take i ++ l.getD i 0 :: l.drop (i + 1) := by
        conv => lhs; rw [← List.take_append_drop (i + 1) l, take_getD l 0 hlt]
        simp
      have HSP := Lib.hid hsp
      have HTK := Lib.hid (take_getD l 0 hlt)
      have HLEN := Lib.hid (show (l.take i).length = i by rw [List.length_take]; omega)
      have HLT := Lib.hid hlt
      clear hd hsp hlt
      by_cases hc2 : l.getD i 0 = c
      · have HC2 := Lib.hid hc2
        rw [hc2] at hx
        have hb : ([c] == [c]) = true := by simp
        clear hc2
        go_wp2_with fail
        go_ret
        exact ⟨_, rfl, .inr ⟨l.take i, l.drop (i + 1), by rw [← HC2.out]; exact HSP.out, by rw [HLEN.out], HR.out.1⟩, HR.out.2⟩
      · have hb : ([l.getD i 0] == [c]) = false := by simpa using hc2
        have HC2 := Lib.hid hc2
        generalize l.getD i 0 = x at hx hb
        clear hc2
        go_wp2_with fail
        go_roundg (l.length - (i + 1))
        case rel =>
          refine ⟨i + 1, by have := HLT.out; omega, rfl, by go_num, fun b hb => ?_, HR.out.2⟩
          rw [HTK.out, List.mem_append, List.mem_singleton] at hb
          rcases hb with hb | rfl
          · exact HR.out.1 b hb
          · exact HC2.out
        case measure => have := HLT.out; omega
    · obtain rfl : i = l.length := by omega
      clear hlt
      go_wp2_with fail
      go_ret
      exact ⟨_, rfl, .inl ⟨rfl, by have := HR.out.1; rw [List.take_length] at this; exact this⟩, HR.out.2⟩

theorem Tryz.infoStr : (Tryz.prog.info? 9).map (fun i => (i.zero, i.size, i.bytes)) = some (some (.string ⟨#[]⟩), 1, 16) := by kernel_rfl

/-- Pieces as values. -/
def strV (ps : List (List UInt8)) : List Value := ps.map (fun p => .string (bs p))

set_option maxHeartbeats 2000000 in
theorem zzSplit_any (l : List UInt8) (c : UInt8) (w : World) (hl : l.length ≤ 10000000) :
    Calls Tryz.prog 55 #[.string (bs l), .string (bs [c])] w fun e w' => ∃ a cap, e = .returned (.slice a (splitB c l).length cap) ∧ Own w w' 9 1 (.slice a (splitB c l).length cap) (splitB c l).length (strV (splitB c l)) := by
  have hc := bs_size [c]
  have HZ := Lib.hid (fun (r : List UInt8) (hr : r.length ≤ l.length) w' => zzIndex_any r c w' (by omega))
  have HL := Lib.hid hl
  obtain ⟨i0, hinf, hz0, hz1, hz2⟩ := info_parts Tryz.infoStr
  have HA := Lib.hid (fun (wr : World) (v : Value) (n : Nat) (xs : List Value) (x : ByteArray) (h : Own w wr 9 1 v n xs) (hn : n ≤ 100000000) => own_app (ty := 102) Tryz.underlying102 hinf hz0 hz1 hz2 rfl (by decide) (by decide) #[.string x] h hn rfl (by simp [Value.oneCell']))
  clear hinf hz0 hz1 hz2 hl
  go_enter Tryz.func55, Tryz.ntmps55
  go_wp2_with fail
  go_loopg [0, 5] l.length (fun nn s0 s5 wr => ∃ (dn : List (List UInt8)) (rest : List UInt8) (a : Option Addr) (cap : Nat), rest.length ≤ l.length ∧ rest.length = nn ∧ s0 = .string (bs rest) ∧ s5 = .slice a dn.length cap ∧ Hid (splitB c l = dn ++ splitB c rest ∧ dn.length + rest.length ≤ l.length ∧ Own w wr 9 1 (.slice a dn.length cap) dn.length (strV dn)))
  case atStart => exact ⟨[], l, none, 0, Nat.le_refl _, rfl, rfl, rfl, rfl, by simp, Own.nil _ _ _⟩
  case round =>
    obtain ⟨dn, rest, a, cap, hr, hnn, rfl, rfl, HR⟩ := hrel
    rename World => wr
    have hrs := bs_size rest
    have HRL := Lib.hid hr
    have HNN := Lib.hid hnn
    clear hr hnn
    go_wp2_with fail
    refine (HZ.out rest HRL.out _).mono ?_
    rintro e w1 ⟨r, rfl, hat, hw⟩
    rw [hw]
    clear hw
    obtain ⟨hsp, hdn, how⟩ := HR.out
    have HSP := Lib.hid hsp
    have HDN := Lib.hid hdn
    have hn : dn.length ≤ 100000000 := by have := HL.out; omega
    rcases hat with ⟨rfl, hno⟩ | ⟨pa, pb, hrest, rfl, hno⟩
    · have HA1 := Lib.hid (HA.out wr _ _ _ (bs rest) how hn)
      have HE := Lib.hid (splitB_none hno)
      clear hsp hdn how hn hno HR
      go_wp2_with (at_builtin; refine wpList_append_run rfl (.tmp 42) (.tmp 44) 102 rfl (.slice a dn.length cap) (.slice (some ⟨wr.heap.size, 0, none⟩) 1 1) (by simp [Act.eval]) (by simp [Act.eval]) _ HA1.out ?_; rintro vv w7 ⟨g7, c7, rfl, n1, n2, n3, n4, n5⟩; have HN1 := Lib.hid n1; clear n1 n2 n3 n4 n5)
      go_ret
      have hl2 : splitB c l = dn ++ [rest] := by rw [HSP.out, HE.out]
      refine ⟨some ⟨g7, 0, none⟩, c7, ?_, ?_⟩
      · rw [hl2, List.length_append]; rfl
      · rw [hl2, List.length_append]
        have := HN1.out
        unfold strV at this ⊢
        rw [List.map_append]
        exact this
    · have HE := Lib.hid (splitB_at pb hno)
      have hx1 := bs_extract rest 0 pa.length
      have hx2 := bs_extract rest (pa.length + 1) rest.length
      have hl1 : rest.length = pa.length + 1 + pb.length := by rw [hrest]; simp; omega
      rw [show (rest.take pa.length).drop 0 = pa by rw [hrest]; simp] at hx1
      rw [show (rest.take rest.length).drop (pa.length + 1) = pb by rw [List.take_length, hrest]; simp] at hx2
      have HA1 := Lib.hid (HA.out wr _ _ _ (bs pa) how hn)
      have HRE := Lib.hid hrest
      have HL1 := Lib.hid hl1
      have hle1 : (pa.length : Int) ≤ (rest.length : Int) := by omega
      have hle2 : (pa.length : Int) + 1 ≤ (rest.length : Int) := by omega
      have hr7 : (rest.length : Int) ≤ 10000000 := by have := HL.out; have := HRL.out; omega
      clear hsp hdn how hn hno HR hrest hl1
      go_wp2_with (at_builtin; refine wpList_append_run rfl (.tmp 46) (.tmp 50) 102 rfl (.slice a dn.length cap) (.slice (some ⟨wr.heap.size, 0, none⟩) 1 1) (by simp [Act.eval]) (by simp [Act.eval]) _ HA1.out ?_; rintro vv w7 ⟨g7, c7, rfl, n1, n2, n3, n4, n5⟩; have HN1 := Lib.hid n1; clear n1 n2 n3 n4 n5)
      go_roundg pb.length
      case rel =>
        refine ⟨dn ++ [pa], pb, some ⟨g7, 0, none⟩, c7, by have := HRL.out; have := HL1.out; omega, rfl, rfl, by rw [List.length_append]; rfl, ?_, ?_, ?_⟩
        · rw [HSP.out, HRE.out, HE.out]; simp
        · rw [List.length_append]
          have := HDN.out
          have := HL1.out
          simp only [List.length_singleton]
          omega
        · rw [List.length_append]
          have := HN1.out
          unfold strV at this ⊢
          rw [List.map_append]
          exact this
      case measure => have := HNN.out; have := HL1.out; omega

end Go.Proofs.YtcolffccbmpndaaGreatDoor
