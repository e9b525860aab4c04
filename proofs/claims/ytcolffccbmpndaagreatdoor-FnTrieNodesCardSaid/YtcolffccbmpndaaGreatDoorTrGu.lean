/- The guards of the laws over steps: zzFits14, SmallTrie, TrieSteps; adds. -/
import Derived.Test.YtcolffccbmpndaaGreatDoorTrQ
namespace Go.Proofs.YtcolffccbmpndaaGreatDoor
open Go.RowKit Go.Deep
set_option maxRecDepth 100000

/-- A step whose slice of bytes is long stands in memory; a law that reads lengths alone. -/
theorem fits15_any (w : World) (kd : Int) (ba : Option Addr) (l bc : Nat) (h : ByteArray) (id : Int) :
    Calls Tryz.prog 24 #[.agg #[.int .i64 kd, .slice ba l bc, .string h, .int .u64 id]] w fun e w' => e = .returned (.bool (decide (l ≤ 2147483647) && decide (h.size ≤ 2147483647))) ∧ Tch [] w w' := by
  have HT := Lib.hid ((Tch.refl [] w).alloc (.cells #[.int .i64 kd, .slice ba l bc, .string h, .int .u64 id] 28))
  by_cases h1 : l ≤ 2147483647
  · have d1 : decide (l ≤ 2147483647) = true := decide_eq_true h1
    have g1 : (l : Int) ≤ 2147483647 := by omega
    rw [d1, Bool.true_and]
    by_cases h2 : h.size ≤ 2147483647
    · have d2 : decide (h.size ≤ 2147483647) = true := decide_eq_true h2
      have g2 : (h.size : Int) ≤ 2147483647 := by omega
      rw [d2]
      clear d1 d2 h1 h2
      go_enter Tryz.func24, Tryz.ntmps24
      go_wp2_with fail
      go_ret
      exact ⟨rfl, HT.out⟩
    · have d2 : decide (h.size ≤ 2147483647) = false := decide_eq_false h2
      have g2 : (2147483647 : Int) < (h.size : Int) := by omega
      rw [d2]
      clear d1 d2 h1 h2
      go_enter Tryz.func24, Tryz.ntmps24
      go_wp2_with fail
      go_ret
      exact ⟨rfl, HT.out⟩
  · have d1 : decide (l ≤ 2147483647) = false := decide_eq_false h1
    have g1 : (2147483647 : Int) < (l : Int) := by omega
    rw [d1, Bool.false_and]
    clear d1 h1
    go_enter Tryz.func24, Tryz.ntmps24
    go_wp2_with fail
    go_ret
    exact ⟨rfl, HT.out⟩

/-- Nothing is longer than the laws speak of. -/
def wide (L : List StepD) : Prop := L.length ≤ 2147483647 ∧ ∀ i, i < L.length → (L.getD i default).bytes.length ≤ 2147483647 ∧ (L.getD i default).holes.length ≤ 2147483647

set_option maxHeartbeats 2000000 in
theorem fits14_any (w : World) (L : List StepD) (sa : Option Addr) (cz : Nat) (hst : StepsAt w sa L) :
    Calls Tryz.prog 12 #[.slice sa L.length cz] w fun e w' => ∃ b, e = .returned (.bool b) ∧ Tch [] w w' ∧ (b = true → wide L) := by
  by_cases hbig : L.length ≤ 2147483647
  · have HST := Lib.hid (fun w' (t : Tch [] w w') => hst.tch t)
    have hlI : (L.length : Int) ≤ 2147483647 := by omega
    have HB := Lib.hid hbig
    clear hst hbig
    go_enter Tryz.func12, Tryz.ntmps12
    go_wp2_with fail
    go_loopg [10] L.length (fun nn s10 wr => ∃ i : Nat, i ≤ L.length ∧ nn = L.length - i ∧ s10 = .int .i64 i ∧ Hid (Tch [] w wr ∧ ∀ j, j < i → (L.getD j default).bytes.length ≤ 2147483647 ∧ (L.getD j default).holes.length ≤ 2147483647))
    case atStart => exact ⟨0, Nat.zero_le _, rfl, rfl, Tch.refl _ _, fun j hj => absurd hj (Nat.not_lt_zero j)⟩
    case round =>
      obtain ⟨i, hi, rfl, rfl, HZ⟩ := hrel
      rename World => wr
      by_cases hlt : i < L.length
      · have HLT := Lib.hid hlt
        have hlt2 : (i : Int) < (L.length : Int) := by omega
        obtain ⟨a, rfl, hsa⟩ := HST.out wr HZ.out.1 i hlt
        obtain ⟨ba, bc, x0, x1, x2, x3, hby⟩ := hsa.all
        have HC := Lib.hid (fun w' => fits15_any w' (L.getD i default).kind ba (L.getD i default).bytes.length bc (bs (L.getD i default).holes) (L.getD i default).id)
        have HSTEP : Hid ((L.getD i default).bytes.length ≤ 2147483647 ∧ (L.getD i default).holes.length ≤ 2147483647 → ∀ j, j < i + 1 → (L.getD j default).bytes.length ≤ 2147483647 ∧ (L.getD j default).holes.length ≤ 2147483647) := Lib.hid (fun h j hj => by
          by_cases e : j = i
          · rw [e]; exact h
          · exact HZ.out.2 j (by omega))
        generalize L.getD i default = p at *
        have HTA := Lib.hid (HZ.out.1.alloc (.cells #[.int .i64 p.kind, .slice ba p.bytes.length bc, .string (bs p.holes), .int .u64 p.id] 28))
        clear hsa hby hlt hi
        go_wp2_with fail
        refine (HC.out _).mono ?_
        rintro e w2 ⟨rfl, t⟩
        have HT2 := Lib.hid (HTA.out.trans t)
        clear t
        have HBS := Lib.hid (bs_size p.holes)
        obtain ⟨b, hb⟩ : ∃ b, b = (decide (p.bytes.length ≤ 2147483647) && decide ((bs p.holes).size ≤ 2147483647)) := ⟨_, rfl⟩
        have HBV := Lib.hid hb
        rw [← hb]
        clear hb
        cases b with
        | false =>
          go_wp2_with fail
          go_ret
          exact ⟨false, rfl, HT2.out, fun h => by simp at h⟩
        | true =>
          go_wp2_with fail
          go_roundg (L.length - (i + 1))
          case rel => exact ⟨i + 1, HLT.out, rfl, by go_num, HT2.out, HSTEP.out (by
            have h1 := HBV.out
            have h2 := HBS.out
            simp at h1
            omega)⟩
          case measure => have := HLT.out; omega
      · obtain rfl : i = L.length := by omega
        clear hlt hi
        go_wp2_with fail
        go_ret
        exact ⟨true, rfl, HZ.out.1, fun _ => ⟨HB.out, HZ.out.2⟩⟩
  · have g1 : (2147483647 : Int) < (L.length : Int) := by omega
    clear hst hbig
    go_enter Tryz.func12, Tryz.ntmps12
    go_wp2_with fail
    go_ret
    exact ⟨false, rfl, Tch.refl _ _, fun h => by simp at h⟩

/-- Few steps with few bytes in all. -/
def smallS (L : List StepD) : Prop := L.length ≤ 1000 ∧ ∀ i, i < L.length → (L.getD i default).bytes.length ≤ 20000 ∧ (L.getD i default).holes.length ≤ 20000

set_option maxHeartbeats 2000000 in
theorem smallTrie_any (w : World) (L : List StepD) (sa : Option Addr) (cz : Nat) (hst : StepsAt w sa L) (hw : wide L) :
    Calls Tryz.prog 13 #[.slice sa L.length cz] w fun e w' => ∃ b, e = .returned (.bool b) ∧ Tch [] w w' ∧ (b = true → smallS L) := by
  by_cases hbig : L.length ≤ 1000
  · have HST := Lib.hid (fun w' (t : Tch [] w w') => hst.tch t)
    have HW := Lib.hid hw.2
    have hlI : (L.length : Int) ≤ 1000 := by omega
    have HB := Lib.hid hbig
    clear hst hw hbig
    go_enter Tryz.func13, Tryz.ntmps13
    go_wp2_with fail
    go_loopg [3, 11] L.length (fun nn s3 s11 wr => ∃ i sum : Nat, i ≤ L.length ∧ nn = L.length - i ∧ s3 = .int .i64 sum ∧ s11 = .int .i64 i ∧ Hid (Tch [] w wr ∧ sum ≤ 20000 ∧ ∀ j, j < i → (L.getD j default).bytes.length ≤ 20000 ∧ (L.getD j default).holes.length ≤ 20000))
    case atStart => exact ⟨0, 0, Nat.zero_le _, rfl, rfl, rfl, Tch.refl _ _, by omega, fun j hj => absurd hj (Nat.not_lt_zero j)⟩
    case round =>
      obtain ⟨i, sum, hi, rfl, rfl, rfl, HZ⟩ := hrel
      rename World => wr
      by_cases hlt : i < L.length
      · have HLT := Lib.hid hlt
        have hlt2 : (i : Int) < (L.length : Int) := by omega
        obtain ⟨a, rfl, hsa⟩ := HST.out wr HZ.out.1 i hlt
        obtain ⟨ba, bc, x0, x1, x2, x3, hby⟩ := hsa.all
        have hwi := HW.out i hlt
        have HSTEP : Hid ((L.getD i default).bytes.length ≤ 20000 ∧ (L.getD i default).holes.length ≤ 20000 → ∀ j, j < i + 1 → (L.getD j default).bytes.length ≤ 20000 ∧ (L.getD j default).holes.length ≤ 20000) := Lib.hid (fun h j hj => by
          by_cases e : j = i
          · rw [e]; exact h
          · exact HZ.out.2.2 j (by omega))
        generalize L.getD i default = p at *
        have hbz := bs_size p.holes
        have g1 : (p.bytes.length : Int) ≤ 2147483647 := by omega
        have g2 : (p.holes.length : Int) ≤ 2147483647 := by omega
        have g3 : (sum : Int) ≤ 20000 := by have := HZ.out.2.1; omega
        have HTA := Lib.hid (HZ.out.1.alloc (.cells #[.int .i64 p.kind, .slice ba p.bytes.length bc, .string (bs p.holes), .int .u64 p.id] 28))
        clear hsa hby hlt hi hwi
        by_cases hs : sum + (p.bytes.length + p.holes.length) ≤ 20000
        · have hs2 : (sum : Int) + ((p.bytes.length : Int) + (p.holes.length : Int)) ≤ 20000 := by omega
          have HS2 := Lib.hid hs
          clear hs
          go_wp2_with fail
          go_roundg (L.length - (i + 1))
          case rel => exact ⟨i + 1, sum + (p.bytes.length + p.holes.length), HLT.out, rfl, by go_num, by go_num, HTA.out, HS2.out, HSTEP.out ⟨by have := HS2.out; omega, by have := HS2.out; omega⟩⟩
          case measure => have := HLT.out; omega
        · have hs2 : (20000 : Int) < (sum : Int) + ((p.bytes.length : Int) + (p.holes.length : Int)) := by omega
          clear hs
          go_wp2_with fail
          go_ret
          exact ⟨false, rfl, HTA.out, fun h => by simp at h⟩
      · obtain rfl : i = L.length := by omega
        clear hlt hi
        go_wp2_with fail
        go_ret
        exact ⟨true, rfl, HZ.out.1, fun _ => ⟨HB.out, HZ.out.2.2⟩⟩
  · have g1 : (1000 : Int) < (L.length : Int) := by omega
    clear hst hw hbig
    go_enter Tryz.func13, Tryz.ntmps13
    go_wp2_with fail
    go_ret
    exact ⟨false, rfl, Tch.refl _ _, fun h => by simp at h⟩

/-- All steps are of a kind, with texts of holes where these are asked for. -/
def stepOk (s : StepD) : Prop := 0 ≤ s.kind ∧ s.kind ≤ 5 ∧ (s.kind = 1 ∨ s.kind = 3 → ∃ n f, HolesOk s.holes n f)

set_option maxHeartbeats 4000000 in
theorem trieSteps_any (w : World) (L : List StepD) (sa : Option Addr) (cz : Nat) (hst : StepsAt w sa L) (hs : smallS L) :
    Calls Tryz.prog 14 #[.slice sa L.length cz] w fun e w' => ∃ b, e = .returned (.bool b) ∧ Tch [] w w' ∧ (b = true → ∀ i, i < L.length → stepOk (L.getD i default)) := by
  have HST := Lib.hid (fun w' (t : Tch [] w w') => hst.tch t)
  have HSM := Lib.hid hs
  have hlI : (L.length : Int) ≤ 1000 := by have := hs.1; omega
  clear hst hs
  go_enter Tryz.func14, Tryz.ntmps14
  go_wp2_with fail
  go_loopg [9] L.length (fun nn s9 wr => ∃ i : Nat, i ≤ L.length ∧ nn = L.length - i ∧ s9 = .int .i64 i ∧ Hid (Tch [] w wr ∧ ∀ j, j < i → stepOk (L.getD j default)))
  case atStart => exact ⟨0, Nat.zero_le _, rfl, rfl, Tch.refl _ _, fun j hj => absurd hj (Nat.not_lt_zero j)⟩
  case round =>
    obtain ⟨i, hi, rfl, rfl, HZ⟩ := hrel
    rename World => wr
    by_cases hlt : i < L.length
    · have HLT := Lib.hid hlt
      have hlt2 : (i : Int) < (L.length : Int) := by omega
      obtain ⟨a, rfl, hsa⟩ := HST.out wr HZ.out.1 i hlt
      obtain ⟨ba, bc, x0, x1, x2, x3, hby⟩ := hsa.all
      have HWI := Lib.hid (HSM.out.2 i hlt)
      have HSTEP : Hid (stepOk (L.getD i default) → ∀ j, j < i + 1 → stepOk (L.getD j default)) := Lib.hid (fun h j hj => by
        by_cases e : j = i
        · rw [e]; exact h
        · exact HZ.out.2 j (by omega))
      generalize L.getD i default = p at *
      obtain ⟨kd, bytes, holes, id⟩ := p
      simp only [] at x0 x1 x2 x3 HWI
      have HTA := Lib.hid (HZ.out.1.alloc (.cells #[.int .i64 kd, .slice ba bytes.length bc, .string (bs holes), .int .u64 id] 28))
      have hbx : ∀ w', Tch [] (wr.alloc (.cells #[.int .i64 kd, .slice ba bytes.length bc, .string (bs holes), .int .u64 id] 28)) w' → w'.cell? ⟨wr.heap.size, 0, none⟩ = some (.int .i64 kd) := fun w' t => by
        rw [cell_of_row w' _ 0 _ _ _ (t.obj (heap_alloc_new wr _) (by simp))]; rfl
      have HBX := Lib.hid hbx
      have HC := Lib.hid (fun w' => holes_any holes w' (by have := HWI.out.2; omega))
      clear hsa hby hlt hi hbx
      by_cases hk : 0 ≤ kd ∧ kd ≤ 5
      · obtain ⟨hk1, hk2⟩ := hk
        have HK := Lib.hid (⟨hk1, hk2⟩ : _ ∧ _)
        go_wp2_with fail
        refine (HC.out _).mono ?_
        rintro e w2 ⟨ha, hc, hn, hf, fine, rfl, h1, h2, h3, h4⟩
        have hb2 := HBX.out w2 h1.t
        have HT2 := Lib.hid (HTA.out.trans h1.t)
        have H4 := Lib.hid (fun h => holesOk_of (h4 h))
        clear h1 h2 h3 h4
        cases fine with
        | true =>
          have HOKS : Hid (stepOk ⟨kd, bytes, holes, id⟩) := Lib.hid ⟨HK.out.1, HK.out.2, fun _ => by obtain ⟨f', h1, -⟩ := H4.out (by simp); exact ⟨hn, f', h1⟩⟩
          go_wp2_with fail
          go_roundg (L.length - (i + 1))
          case rel => exact ⟨i + 1, HLT.out, rfl, by go_num, HT2.out, HSTEP.out HOKS.out⟩
          case measure => have := HLT.out; omega
        | false =>
          by_cases h13 : kd = 1 ∨ kd = 3
          · rcases h13 with rfl | rfl
            all_goals
              go_wp2_with fail
              go_ret
              exact ⟨false, rfl, HT2.out, fun h => by simp at h⟩
          · have h1 : ¬ kd = 1 := fun h => h13 (.inl h)
            have h3 : ¬ kd = 3 := fun h => h13 (.inr h)
            have b1 : (kd == 1) = false := by simpa using h1
            have b3 : (kd == 3) = false := by simpa using h3
            have HOKS : Hid (stepOk ⟨kd, bytes, holes, id⟩) := Lib.hid ⟨HK.out.1, HK.out.2, fun h => absurd h h13⟩
            clear h13 h1 h3
            go_wp2_with fail
            go_roundg (L.length - (i + 1))
            case rel => exact ⟨i + 1, HLT.out, rfl, by go_num, HT2.out, HSTEP.out HOKS.out⟩
            case measure => have := HLT.out; omega
      · by_cases h0 : kd < 0
        · have d0 : decide (kd < 0) = true := decide_eq_true h0
          clear hk
          go_wp2_with fail
          go_ret
          exact ⟨false, rfl, HTA.out, fun h => by simp at h⟩
        · have h5 : 5 < kd := by omega
          have h00 : 0 ≤ kd := by omega
          clear hk h0
          go_wp2_with fail
          go_ret
          exact ⟨false, rfl, HTA.out, fun h => by simp at h⟩
    · obtain rfl : i = L.length := by omega
      clear hlt hi
      go_wp2_with fail
      go_ret
      exact ⟨true, rfl, HZ.out.1, fun _ => HZ.out.2⟩

end Go.Proofs.YtcolffccbmpndaaGreatDoor
