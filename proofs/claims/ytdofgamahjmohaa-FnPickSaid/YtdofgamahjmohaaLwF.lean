/- levelTargets: the walk. -/
import Derived.Test.YtdofgamahjmohaaLwE
import Derived.BigQuiet
namespace Go.Proofs.Ytdofgamahjmohaa
open Go.RowKit Go.Deep
set_option maxRecDepth 100000

theorem wrapT {v : Int} (h1 : -9223372036854775808 ≤ v) (h2 : v ≤ 9223372036854775807) : IntKind.i64.wrap v = v := by
  simp only [IntKind.wrap, IntKind.bits, IntKind.signed]
  simp
  omega

theorem pow_bound {tt : Int} (h1 : 1 ≤ tt) (h2 : tt ≤ 4) : ∀ k, k ≤ 6 → 1 ≤ tt ^ k ∧ tt ^ k ≤ 4096 := by
  have one : ∀ k : Nat, 1 ≤ tt ^ k ∧ tt ^ k ≤ 4 ^ k := by
    intro k
    induction k with
    | zero => simp
    | succ k ih =>
      rw [Int.pow_succ, Int.pow_succ]
      constructor
      · have := Int.mul_le_mul ih.1 h1 (by omega) (by omega)
        omega
      · exact Int.mul_le_mul ih.2 h2 (by omega) (Int.le_trans (by omega) ih.2)
  intro k hk
  have h4 : ∀ k : Nat, k ≤ 6 → (4 : Int) ^ k ≤ 4096 := by decide
  exact ⟨(one k).1, Int.le_trans (one k).2 (h4 k hk)⟩
theorem fs_bound {tt bt : Int} (h : 1 ≤ tt ∧ tt ≤ 4) (k : 1 ≤ bt ∧ bt ≤ 1099511627776) {i : Nat} (hi : i ≤ 6) : 0 ≤ bt * tt ^ i ∧ bt * tt ^ i ≤ 4503599627370496 := by
  have hp := pow_bound h.1 h.2 i hi
  constructor
  · exact Int.mul_nonneg (by omega) (by omega)
  · have := Int.mul_le_mul k.2 hp.2 (by omega) (by omega)
    omega

/-- The last one of k+1 .. n-1 with p, or 0. -/
def LastF (k n : Nat) (p : Nat → Prop) (w : Nat) : Prop := (∀ j, w < j → k < j → j < n → ¬ p j) ∧ (w = 0 ∨ (k < w ∧ w < n ∧ p w))
theorem LastF.start {m : Nat} {p : Nat → Prop} : LastF (m + 1) (m + 2) p 0 := ⟨fun j _ h1 h2 => by omega, .inl rfl⟩
theorem LastF.done {n : Nat} {p : Nat → Prop} {w : Nat} (h : LastF 0 n p w) : LastP n p w := ⟨fun j h1 h2 => h.1 j h1 (by omega) h2, h.2.imp id (fun h => h.2)⟩
theorem LastF.hit {q n : Nat} {p : Nat → Prop} (h : LastF (q + 1) n p 0) (hq : q + 1 < n) (hp : p (q + 1)) : LastF q n p (q + 1) := ⟨fun j h1 _ h3 => h.1 j (by omega) h1 h3, .inr ⟨by omega, hq, hp⟩⟩
theorem LastF.miss {q n : Nat} {p : Nat → Prop} (h : LastF (q + 1) n p 0) (hp : ¬ p (q + 1)) : LastF q n p 0 := ⟨fun j h1 h2 h3 => by
  by_cases e : j = q + 1
  · rw [e]; exact hp
  · exact h.1 j h1 (by omega) h3, .inl rfl⟩
theorem LastF.keep {q n : Nat} {p : Nat → Prop} {w : Nat} (h : LastF (q + 1) n p w) (hw : w ≠ 0) : LastF q n p w := by
  rcases h.2 with h2 | h2
  · exact absurd h2 hw
  · exact ⟨fun j h1 _ h3 => h.1 j h1 (by omega) h3, .inr ⟨by omega, h2.2⟩⟩

set_option maxHeartbeats 8000000 in
theorem levelTargets_any (gs go : Nat) (gH : Nat) (m hc : Nat) (hb : Nat → Nat) (T : Nat → Int) (lt tt bl bt mt : Int) (w : World) (h : CR w gs go gH (m + 2) hc hb T lt tt bl bt mt) (h7 : m ≤ 5)
    (hT : ∀ j, j < m + 2 → 0 ≤ T j ∧ T j ≤ 1125899906842624) (hlt : 1 ≤ lt ∧ lt ≤ 100) (htt : 1 ≤ tt ∧ tt ≤ 4) (hbl : 1 ≤ bl ∧ bl ≤ 1099511627776) (hbt : 1 ≤ bt ∧ bt ≤ 1099511627776) (hmt : 1 ≤ mt ∧ mt ≤ 1099511627776) :
    Calls Try.prog 46 #[ptr gs] w fun e w' => ∃ (b gA gB : Nat), e = .returned (.agg #[.int .i64 b, .slice (some ⟨gA, 0, none⟩) (m + 2) (m + 2), .slice (some ⟨gB, 0, none⟩) (m + 2) (m + 2)]) ∧
      w'.heap[gA]? = some (.cells (arr (m + 2) (tg (m + 2) (T (m + 1)) lt bl)) 2 (0, 0)) ∧ w'.heap[gB]? = some (.cells (arr (m + 2) (fsz tt bt mt b)) 2 (0, 0)) ∧
      GoBase2 (m + 2) T (fun i => tg (m + 2) (T (m + 1)) lt bl i ≤ bl) (fun i => T i < tg (m + 2) (T (m + 1)) lt bl i ∧ T i < bl) b ∧ Tch [] w w' := by
  have mi : (m : Int) ≤ 5 := by omega
  have hmk := fun (w : World) => run_make_row' (P := Try.prog) 35 2 (.int .i64 0) 8 Try.underlying35 Try.infoI64 rfl .i64 .i64 (m + 2) (by omega) (by omega) w
  have ec : ((m + 2 : Nat) : Int) = (m : Int) + 2 := by omega
  rw [ec] at hmk
  simp only [arr_made] at hmk
  have hmk2 := fun (w : World) => hmk w
  have HCR := Lib.hid h
  have HT := Lib.hid hT
  have HB := Lib.hid (⟨hlt, htt, hbl, hbt, hmt⟩ : _ ∧ _ ∧ _ ∧ _ ∧ _)
  have x0 := h.s0
  have l1 := h.b1
  have l2 : gs < w.heap.size + 1 := by omega
  have l3 : gs < w.heap.size + 1 + 1 := by omega
  have l4 : gs < w.heap.size + 1 + 1 + 1 := by omega
  have l5 : gs < w.heap.size + 1 + 1 + 1 + 1 := by omega
  clear h hT hlt htt hbl hbt hmt ec
  go_enter Try.func46, Try.ntmps46
  go_wp2_with fail
  go_cut [4] from 17 to 29 (fun s4 wx => ∃ gt gA gB, s4 = ptr gt ∧ Hid (TS w wx gs w.heap.size (w.heap.size + 1) gt gA gB (m + 2) 0 (fun _ => 0) (fun _ => 0)))
  case first =>
    go_region
    all_goals (try go_wp2_with fail)
    all_goals go_meet
    all_goals first
      | exact ⟨w.heap.size + 1 + 1, w.heap.size + 1 + 1 + 1, w.heap.size + 1 + 1 + 1 + 1, rfl, (pos3 w gs _ _ _ 1).ts (pos3 w gs _ _ _ 1).p1 (pos3 w gs _ _ _ 1).p2 (pos3 w gs _ _ _ 1).p3 (by omega) (by omega) (by omega) (by omega)⟩
      | exact ⟨w.heap.size + 1 + 1, w.heap.size + 1 + 1 + 1 + 1, w.heap.size + 1 + 1 + 1, rfl, (pos3 w gs _ _ _ 1).ts (pos3 w gs _ _ _ 1).p1 (pos3 w gs _ _ _ 1).p3 (pos3 w gs _ _ _ 1).p2 (by omega) (by omega) (by omega) (by omega)⟩
      | exact ⟨w.heap.size + 1 + 1 + 1, w.heap.size + 1 + 1, w.heap.size + 1 + 1 + 1 + 1, rfl, (pos3 w gs _ _ _ 1).ts (pos3 w gs _ _ _ 1).p2 (pos3 w gs _ _ _ 1).p1 (pos3 w gs _ _ _ 1).p3 (by omega) (by omega) (by omega) (by omega)⟩
      | exact ⟨w.heap.size + 1 + 1 + 1, w.heap.size + 1 + 1 + 1 + 1, w.heap.size + 1 + 1, rfl, (pos3 w gs _ _ _ 1).ts (pos3 w gs _ _ _ 1).p2 (pos3 w gs _ _ _ 1).p3 (pos3 w gs _ _ _ 1).p1 (by omega) (by omega) (by omega) (by omega)⟩
      | exact ⟨w.heap.size + 1 + 1 + 1 + 1, w.heap.size + 1 + 1, w.heap.size + 1 + 1 + 1, rfl, (pos3 w gs _ _ _ 1).ts (pos3 w gs _ _ _ 1).p3 (pos3 w gs _ _ _ 1).p1 (pos3 w gs _ _ _ 1).p2 (by omega) (by omega) (by omega) (by omega)⟩
      | exact ⟨w.heap.size + 1 + 1 + 1 + 1, w.heap.size + 1 + 1 + 1, w.heap.size + 1 + 1, rfl, (pos3 w gs _ _ _ 1).ts (pos3 w gs _ _ _ 1).p3 (pos3 w gs _ _ _ 1).p2 (pos3 w gs _ _ _ 1).p1 (by omega) (by omega) (by omega) (by omega)⟩
  case rest =>
    clear hmk hmk2 x0 l1 l2 l3 l4 l5
    obtain ⟨gt, gA, gB, rfl, HS⟩ := hcut
    have HC := Lib.hid (fun (w' : World) (t : Tch [] w w') => HCR.out.tch t)
    obtain ⟨⟨c0, c1, c2, c3⟩, -⟩ := HS.out.cells
    have k := HC.out _ HS.out.t
    have s0 := k.s0
    have HLL := Lib.hid (fun q => lastLevel_any gs gH (m + 1) hc (hb (m + 1)) (wc.drewN q) (by omega) (k.tch ((Tch.refl _ _).drewN q)).s0 ((k.tch ((Tch.refl _ _).drewN q)).row (m + 1) (by omega)))
    have HTL := Lib.hid (fun q => total_cell (hb (m + 1)) (T (m + 1)) (wc.drewN q) ((k.tch ((Tch.refl _ _).drewN q)).tot (m + 1) (by omega)))
    clear k
    go_upto_region 3 with fail
    go_wp2_with (first
      | (go_at_call 54; refine (HLL.out 0).mono ?_; rintro e w5 ⟨rfl, q, hq⟩; rw [hq]; clear hq)
      | (go_at_call 55; refine (HTL.out _).mono ?_; rintro e w5 ⟨rfl, hq⟩; rw [hq]; clear hq))
    clear HLL HTL s0 c0 c1 c2 c3
    go_loopg [5, 6] (m + 1) (fun nn s5 s6 wr => ∃ (k b : Nat), k ≤ m + 1 ∧ k = nn ∧ s5 = .int .i64 (dbF (T (m + 1)) lt (m + 1 - k)) ∧ s6 = .int .i64 k ∧ Hid (LastF k (m + 2) (fun i => tg (m + 2) (T (m + 1)) lt bl i ≤ bl) b ∧ TS w wr gs w.heap.size (w.heap.size + 1) gt gA gB (m + 2) b (fun j => if k < j then tg (m + 2) (T (m + 1)) lt bl j else 0) (fun _ => 0)))
    case atStart =>
      refine ⟨m + 1, 0, Nat.le_refl _, rfl, by rw [Nat.sub_self]; rfl, by go_num, LastF.start, (HS.out.tch ?_).congr (fun i hi => ?_) (fun _ _ => rfl)⟩
      · repeat (first | exact Tch.refl _ _ | refine Tch.drewN ?_ _ | refine Tch.drew ?_)
      · rw [if_neg (by omega)]
    case round =>
      obtain ⟨k, b, hk, rfl, rfl, rfl, HR⟩ := hrel
      have HCw := Lib.hid (HC.out _ HR.out.2.t)
      obtain ⟨⟨c0, c1, c2, c3⟩, -⟩ := HR.out.2.cells
      have fz := fun i => HR.out.2.cells.2.2.2 gA i (.inr (.inl rfl))
      cases k with
      | zero =>
        have HL0 := Lib.hid HR.out.1.done
        have HS0 := Lib.hid (HR.out.2.congr (f' := tg (m + 2) (T (m + 1)) lt bl) (fun i _ => by
          by_cases e : i = 0
          · rw [if_neg (by omega), e]; rfl
          · rw [if_pos (by omega)]) (fun _ _ => rfl))
        clear HR fz HCw
        obtain ⟨⟨c0, c1, c2, c3⟩, -⟩ := HS0.out.cells
        have f2 := HS0.out.cells.2.2.2 gt 0 (.inl rfl)
        have HS0b := Lib.hid (HS0.out.setBase 1)
        go_upto_if 78 with fail
        go_cut [8] from 76 to 79 (fun s8 wx => Hid (TS w wx gs w.heap.size (w.heap.size + 1) gt gA gB (m + 2) ((if b = 0 then 1 else b : Nat) : Int) (tg (m + 2) (T (m + 1)) lt bl) (fun _ => 0)))
        case first =>
          by_cases hb0 : b = 0
          · subst hb0
            go_wp2_with fail
            go_meet
            exact HS0b.out
          · have hd1 : decide ((b : Int) = 0) = false := by simpa using hb0
            have hd2 : ((b : Int) == 0) = false := by simpa using hb0
            have hd3 : decide (b = 0) = false := by simpa using hb0
            have hd4 : (b == 0) = false := by simpa using hb0
            have HS0c := Lib.hid (show TS w wr gs w.heap.size (w.heap.size + 1) gt gA gB (m + 2) ((if b = 0 then 1 else b : Nat) : Int) (tg (m + 2) (T (m + 1)) lt bl) (fun _ => 0) by rw [if_neg hb0]; exact HS0.out)
            clear hb0
            go_wp2_with fail
            go_meet
            exact HS0c.out
        case rest =>
          clear c0 c1 c2 c3 f2 HS0b HS0
          have HS := Lib.hid hcut.out
          have HB0 : Hid (1 ≤ (if b = 0 then 1 else b) ∧ (if b = 0 then 1 else b) ≤ m + 1) := Lib.hid (by have := HL0.out.2; split <;> omega)
          generalize hb0 : (if b = 0 then 1 else b) = b0 at *
          have HBE := Lib.hid hb0
          clear hcut hb0
          obtain ⟨⟨c0, c1, c2, c3⟩, -⟩ := HS.out.cells
          go_upto_block 2 with fail
          go_cut [8] from 82 to 102 (fun s8 wx => Hid (∃ b1 : Nat, ((b1 = b0 ∧ (T b0 ≠ 0 ∨ m + 2 ≤ b0 + 1)) ∨ (b0 ≤ b1 ∧ b1 + 2 ≤ m + 2 ∧ (∀ j, b0 ≤ j → j ≤ b1 → T j = 0) ∧ (b1 + 2 = m + 2 ∨ T (b1 + 1) ≠ 0))) ∧ TS w wx gs w.heap.size (w.heap.size + 1) gt gA gB (m + 2) b1 (tg (m + 2) (T (m + 1)) lt bl) (fun _ => 0)))
          case first =>
            go_wp2_with fail
            go_loopg [8] (m + 2 - b0) (fun nn s8 wr => ∃ i : Nat, i ≤ m + 1 ∧ nn = m + 2 - i ∧ s8 = .int .i64 i ∧ Hid (b0 ≤ i ∧ (∀ j, b0 ≤ j → j < i → T j = 0) ∧ ∃ b1 : Nat, ((i = b0 ∧ b1 = b0) ∨ (b1 + 1 = i ∧ b0 ≤ b1)) ∧ TS w wr gs w.heap.size (w.heap.size + 1) gt gA gB (m + 2) b1 (tg (m + 2) (T (m + 1)) lt bl) (fun _ => 0)))
            case atStart => exact ⟨b0, HB0.out.2, rfl, rfl, Nat.le_refl _, fun j h1 h2 => absurd h1 (by omega), b0, .inl ⟨rfl, rfl⟩, HS.out⟩
            case round =>
              obtain ⟨i, hi, rfl, rfl, HR⟩ := hrel
              obtain ⟨-, -, b1, -, hS⟩ := HR.out
              have k := HC.out _ hS.t
              obtain ⟨⟨c0, c1, c2, c3⟩, -⟩ := hS.cells
              have s0 := k.s0
              clear hS
              by_cases hlt : i < m + 1
              · have hlt2 : (i : Int) < (m : Int) + 1 := by omega
                have r := k.row i (by omega)
                have HTC := Lib.hid (total_cell (hb i) (T i) wr (k.tot i (by omega)))
                clear k
                have HLT := Lib.hid hlt
                clear hlt
                by_cases hz : 0 < T i
                · have hd : decide (0 < T i) = true := by simpa using hz
                  have HZ := Lib.hid hz
                  clear hz
                  go_wp2_with (go_at_call 55; refine HTC.out.mono ?_; rintro e w5 ⟨rfl, hq⟩; rw [hq]; clear hq)
                  go_meet
                  obtain ⟨h1, h2, b1, h3, hS⟩ := HR.out
                  have hz := HZ.out
                  have hlt := HLT.out
                  refine ⟨b1, ?_, hS⟩
                  rcases h3 with ⟨rfl, rfl⟩ | ⟨rfl, h4⟩
                  · exact .inl ⟨rfl, .inl (by omega)⟩
                  · exact .inr ⟨h4, by omega, fun j e1 e2 => h2 j e1 (by omega), .inr (by omega)⟩
                · have hd : decide (0 < T i) = false := by simpa using hz
                  have HZ := Lib.hid (show T i = 0 by have := HT.out i (by omega); omega)
                  obtain ⟨-, -, b1, -, hS⟩ := HR.out
                  have f2 := hS.cells.2.2.2 gt 0 (.inl rfl)
                  have HSB := Lib.hid (hS.setBase i)
                  clear hz hS
                  go_upto_region 16 with (go_at_call 55; refine HTC.out.mono ?_; rintro e w5 ⟨rfl, hq⟩; rw [hq]; clear hq)
                  clear c0 c1 c2 c3 s0 r f2 HTC
                  generalize wr.setCell ⟨gt, 0, none⟩ (.int .i64 (i : Int)) = wz at *
                  go_wp2_with fail
                  go_roundg (m + 2 - (i + 1))
                  case rel =>
                    have hlt := HLT.out
                    refine ⟨i + 1, by omega, rfl, by go_num, by have := HR.out.1; omega, fun j e1 e2 => ?_, i, .inr ⟨rfl, HR.out.1⟩, HSB.out⟩
                    by_cases e : j = i
                    · rw [e]; exact HZ.out
                    · exact HR.out.2.1 j e1 (by omega)
                  case measure => have hlt := HLT.out; omega
              · obtain rfl : i = m + 1 := by omega
                clear hlt k
                go_wp2_with fail
                go_meet
                obtain ⟨h1, h2, b1, h3, hS⟩ := HR.out
                refine ⟨b1, ?_, hS⟩
                rcases h3 with ⟨rfl, rfl⟩ | ⟨h3, h4⟩
                · exact .inl ⟨rfl, .inr (by omega)⟩
                · exact .inr ⟨h4, by omega, fun j e1 e2 => h2 j e1 (by omega), .inl (by omega)⟩
          case rest =>
            clear c0 c1 c2 c3 HS
            obtain ⟨b1, hcond, hS⟩ := hcut.out
            have HCO := Lib.hid hcond
            have HS := Lib.hid hS
            have hb1 : b1 ≤ m + 1 := by have := HB0.out; omega
            have HB1 := Lib.hid hb1
            have k := HC.out _ hS.t
            obtain ⟨⟨c0, c1, c2, c3⟩, cA, -⟩ := hS.cells
            have s0 := k.s0
            have r1 := k.row b1 (by omega)
            have HTC := Lib.hid (total_cell (hb b1) (T b1) wc (k.tot b1 (by omega)))
            have hi1 : (b1 : Int) < (m : Int) + 2 := by omega
            clear hcut hcond hS
            go_upto_region 22 with (go_at_call 55; refine HTC.out.mono ?_; rintro e w5 ⟨rfl, hq⟩; rw [hq]; clear hq)
            go_upto_region 23 with fail
            obtain ⟨dA, hdA⟩ : ∃ d, d = decide (b1 < m + 1) := ⟨_, rfl⟩
            obtain ⟨dB, hdB⟩ : ∃ d, d = decide (T b1 = 0) := ⟨_, rfl⟩
            have eA : decide ((b1 : Int) < (m : Int) + 2 - 1) = dA := by rw [hdA]; exact decide_eq_decide.2 (by omega)
            have eB : (T b1 == 0) = dB := by rw [hdB]; rfl
            rw [eA, eB]
            have HDA := Lib.hid hdA
            have HDB := Lib.hid hdB
            clear eA eB hdA hdB
            go_cut [154] from 120 to 154 (fun s154 wx => ∃ bb : Bool, s154 = .bool bb ∧ Hid ((bb = true ↔ b1 < m + 1 ∧ T b1 = 0 ∧ T (b1 + 1) < tg (m + 2) (T (m + 1)) lt bl (b1 + 1) ∧ T (b1 + 1) < bl) ∧ TS w wx gs w.heap.size (w.heap.size + 1) gt gA gB (m + 2) b1 (tg (m + 2) (T (m + 1)) lt bl) (fun _ => 0)))
            case first =>
              have s1 := k.s1
              have o4 := k.o4
              cases dA with
              | false =>
                clear k cA HDB
                go_quiet (fail)
                all_goals (try go_wp2_with fail)
                go_meet
                exact ⟨false, rfl, ⟨fun h => by simp at h, fun h => absurd h.1 (of_decide_eq_false HDA.out.symm)⟩, HS.out.tch ((Tch.refl _ _).drewN _)⟩
              | true =>
                have hA := of_decide_eq_true HDA.out.symm
                have hA2 : (b1 : Int) + 1 < (m : Int) + 2 := by omega
                have hA3 : (0 : Int) ≤ (b1 : Int) + 1 := by omega
                have hA4 : b1 + 1 < m + 2 := by omega
                have hA5 : b1 < m + 1 := by omega
                have r2 := k.row (b1 + 1) (by omega)
                have xA := cA (b1 + 1) (by omega)
                have HTN := Lib.hid (fun q => total_cell (hb (b1 + 1)) (T (b1 + 1)) (wc.drewN q) ((k.tch ((Tch.refl _ _).drewN q)).tot (b1 + 1) (by omega)))
                clear k cA
                cases dB with
                | false =>
                  clear HDA hA
                  go_quiet (fail)
                  all_goals (try go_wp2_with fail)
                  go_meet
                  exact ⟨false, rfl, ⟨fun h => by simp at h, fun h => absurd h.2.1 (of_decide_eq_false HDB.out.symm)⟩, HS.out.tch ((Tch.refl _ _).drewN _)⟩
                | true =>
                  have hB := of_decide_eq_true HDB.out.symm
                  have HAB := Lib.hid (⟨hA, hB⟩ : b1 < m + 1 ∧ T b1 = 0)
                  clear HDB HDA hA hB
                  by_cases hC : T (b1 + 1) < tg (m + 2) (T (m + 1)) lt bl (b1 + 1)
                  · have hC1 : decide (T (b1 + 1) < tg (m + 2) (T (m + 1)) lt bl (b1 + 1)) = true := by simpa using hC
                    by_cases hD : T (b1 + 1) < bl
                    · have hD1 : decide (T (b1 + 1) < bl) = true := by simpa using hD
                      have HCD := Lib.hid (⟨hC, hD⟩ : T (b1 + 1) < tg (m + 2) (T (m + 1)) lt bl (b1 + 1) ∧ T (b1 + 1) < bl)
                      go_quiet (first | (go_at_call 55; exact Calls.quiet_of_same (HTN.out _)))
                      all_goals (try go_wp2_with fail)
                      go_meet
                      exact ⟨true, rfl, ⟨fun _ => ⟨HAB.out.1, HAB.out.2, HCD.out.1, HCD.out.2⟩, fun _ => rfl⟩, HS.out.tch ((Tch.refl _ _).drewN _)⟩
                    · have hD1 : decide (T (b1 + 1) < bl) = false := by simpa using hD
                      have HND := Lib.hid hD
                      clear hD
                      go_quiet (first | (go_at_call 55; exact Calls.quiet_of_same (HTN.out _)))
                      all_goals (try go_wp2_with fail)
                      go_meet
                      exact ⟨false, rfl, ⟨fun h => by simp at h, fun h => by have h1 := HND.out; have h2 := h.2.2.2; omega⟩, HS.out.tch ((Tch.refl _ _).drewN _)⟩
                  · have hC1 : decide (T (b1 + 1) < tg (m + 2) (T (m + 1)) lt bl (b1 + 1)) = false := by simpa using hC
                    have HNC := Lib.hid hC
                    clear hC
                    go_quiet (first | (go_at_call 55; exact Calls.quiet_of_same (HTN.out _)))
                    all_goals (try go_wp2_with fail)
                    go_meet
                    exact ⟨false, rfl, ⟨fun h => by simp at h, fun h => by have h1 := HNC.out; have h2 := h.2.2.1; omega⟩, HS.out.tch ((Tch.refl _ _).drewN _)⟩
            case rest =>
              clear c0 c1 c2 c3 s0 r1 hi1 HTC k cA
              obtain ⟨bb, rfl, HCU⟩ := hcut
              have HS2 := Lib.hid HCU.out.2
              have HAB := Lib.hid HCU.out.1
              clear HCU HS
              obtain ⟨⟨c0, c1, c2, c3⟩, -⟩ := HS2.out.cells
              have f2 := HS2.out.cells.2.2.2 gt 0 (.inl rfl)
              have hbm : (b1 : Int) ≤ 6 := by have := HB1.out; omega
              have HSB := Lib.hid (show TS w (wc.setCell ⟨gt, 0, none⟩ (.int .i64 ((b1 : Int) + 1))) gs w.heap.size (w.heap.size + 1) gt gA gB (m + 2) ((b1 + 1 : Nat) : Int) (tg (m + 2) (T (m + 1)) lt bl) (fun _ => 0) from HS2.out.setBase ((b1 : Int) + 1))
              go_upto_if 154 with fail
              go_cut [13] from 155 to 158 (fun s13 wx => Hid (∃ b2 : Nat, ((b2 = b1 ∧ ¬ (b1 + 1 < m + 2 ∧ T b1 = 0 ∧ (T (b1 + 1) < tg (m + 2) (T (m + 1)) lt bl (b1 + 1) ∧ T (b1 + 1) < bl))) ∨ (b2 = b1 + 1 ∧ b1 + 1 < m + 2 ∧ T b1 = 0 ∧ (T (b1 + 1) < tg (m + 2) (T (m + 1)) lt bl (b1 + 1) ∧ T (b1 + 1) < bl))) ∧ TS w wx gs w.heap.size (w.heap.size + 1) gt gA gB (m + 2) b2 (tg (m + 2) (T (m + 1)) lt bl) (fun _ => 0)))
              case first =>
                cases bb with
                | true =>
                  have HAB2 := Lib.hid (HAB.out.1 rfl)
                  go_wp2_with fail
                  go_meet
                  exact ⟨b1 + 1, .inr ⟨rfl, by have := HAB2.out.1; omega, HAB2.out.2⟩, HSB.out⟩
                | false =>
                  go_wp2_with fail
                  go_meet
                  exact ⟨b1, .inl ⟨rfl, fun h => by have := HAB.out.2 ⟨by omega, h.2⟩; simp at this⟩, HS2.out⟩
              case rest =>
                clear c0 c1 c2 c3 f2 HSB HS2 HAB
                obtain ⟨b2, hb2, hS⟩ := hcut.out
                have HB2 := Lib.hid hb2
                have HS := Lib.hid hS
                have hb2m : b2 ≤ m + 1 := by
                  have := HB1.out
                  rcases hb2 with ⟨e, -⟩ | ⟨e, e2, -⟩ <;> omega
                have HB2M := Lib.hid hb2m
                clear hcut hb2 hS hb2m
                obtain ⟨⟨c0, c1, c2, c3⟩, -⟩ := HS.out.cells
                go_upto_block 4 with fail
                go_cut [13] from 159 to 175 (fun s13 wx => Hid (∃ b3 : Nat, ((b3 = b2 ∧ ∀ j, 1 ≤ j → j < b2 → T j = 0) ∨ (1 ≤ b3 ∧ b3 < b2 ∧ T b3 ≠ 0 ∧ ∀ j, 1 ≤ j → j < b3 → T j = 0)) ∧ TS w wx gs w.heap.size (w.heap.size + 1) gt gA gB (m + 2) b3 (tg (m + 2) (T (m + 1)) lt bl) (fun _ => 0)))
                case first =>
                  go_wp2_with fail
                  go_loopg [13] (m + 1) (fun nn s13 wr => ∃ i : Nat, i ≤ m + 1 ∧ nn = m + 2 - i ∧ s13 = .int .i64 i ∧ Hid (1 ≤ i ∧ (∀ j, 1 ≤ j → j < i → T j = 0) ∧ TS w wr gs w.heap.size (w.heap.size + 1) gt gA gB (m + 2) b2 (tg (m + 2) (T (m + 1)) lt bl) (fun _ => 0)))
                  case atStart => exact ⟨1, by omega, rfl, by go_num, Nat.le_refl _, fun j h1 h2 => absurd h1 (by omega), HS.out⟩
                  case round =>
                    obtain ⟨i, hi, rfl, rfl, HR⟩ := hrel
                    have k := HC.out _ HR.out.2.2.t
                    clear c0 c1 c2 c3
                    obtain ⟨⟨c0, c1, c2, c3⟩, -⟩ := HR.out.2.2.cells
                    have s0 := k.s0
                    by_cases hlt : i < b2
                    · have hlt2 : (i : Int) < (b2 : Int) := by omega
                      have hlt3 : (i : Int) < (m : Int) + 2 := by have := HB2M.out; omega
                      have r := k.row i (by have := HB2M.out; omega)
                      have HTC := Lib.hid (total_cell (hb i) (T i) wr (k.tot i (by have := HB2M.out; omega)))
                      clear k
                      have HLT := Lib.hid hlt
                      clear hlt
                      by_cases hz : 0 < T i
                      · have hd : decide (0 < T i) = true := by simpa using hz
                        have HZ := Lib.hid hz
                        clear hz
                        have f2 := HR.out.2.2.cells.2.2.2 gt 0 (.inl rfl)
                        have HSB := Lib.hid (HR.out.2.2.setBase i)
                        go_wp2_with (go_at_call 55; refine HTC.out.mono ?_; rintro e w5 ⟨rfl, hq⟩; rw [hq]; clear hq)
                        go_meet
                        have hz := HZ.out
                        exact ⟨i, .inr ⟨HR.out.1, HLT.out, by omega, HR.out.2.1⟩, HSB.out⟩
                      · have hd : decide (0 < T i) = false := by simpa using hz
                        have HZ := Lib.hid (show T i = 0 by have := HT.out i (by have := HB2M.out; have := HLT.out; omega); omega)
                        clear hz
                        go_wp2_with (go_at_call 55; refine HTC.out.mono ?_; rintro e w5 ⟨rfl, hq⟩; rw [hq]; clear hq)
                        go_roundg (m + 2 - (i + 1))
                        case rel =>
                          have hlt := HLT.out
                          have hm := HB2M.out
                          refine ⟨i + 1, by omega, rfl, by go_num, by omega, fun j e1 e2 => ?_, HR.out.2.2⟩
                          by_cases e : j = i
                          · rw [e]; exact HZ.out
                          · exact HR.out.2.1 j e1 (by omega)
                        case measure => have hlt := HLT.out; have hm := HB2M.out; omega
                    · have hlt2 : (b2 : Int) ≤ (i : Int) := by omega
                      have HLT := Lib.hid hlt
                      clear hlt k
                      go_wp2_with fail
                      go_meet
                      exact ⟨b2, .inl ⟨rfl, fun j h1 h2 => HR.out.2.1 j h1 (by have := HLT.out; omega)⟩, HR.out.2.2⟩
                case rest =>
                  clear c0 c1 c2 c3
                  obtain ⟨b3, hb3, hS⟩ := hcut.out
                  have HG : Hid (GoBase2 (m + 2) T (fun i => tg (m + 2) (T (m + 1)) lt bl i ≤ bl) (fun i => T i < tg (m + 2) (T (m + 1)) lt bl i ∧ T i < bl) b3) := Lib.hid ⟨_, _, _, _, HL0.out, HBE.out.symm, HCO.out, HB2.out, hb3⟩
                  have HS := Lib.hid hS
                  clear hcut hb3 hS
                  have HR3 := Lib.hid (HG.out.weak.ranged (by omega))
                  have k := HC.out _ HS.out.t
                  obtain ⟨⟨c0, c1, c2, c3⟩, -⟩ := HS.out.cells
                  have s0 := k.s0
                  have s1 := k.s1
                  have o5 := k.o5
                  clear k
                  go_wp2_with fail
                  clear c0 c1 c2 c3 s0 s1 o5
                  go_loopg [14, 15] (m + 2) (fun nn s14 s15 wr => ∃ i : Nat, i ≤ m + 2 ∧ nn = m + 2 - i ∧ s14 = .int .i64 (bt * tt ^ (i - 1 - b3)) ∧ s15 = .int .i64 i ∧ Hid (TS w wr gs w.heap.size (w.heap.size + 1) gt gA gB (m + 2) b3 (tg (m + 2) (T (m + 1)) lt bl) (fun j => if j < i then fsz tt bt mt b3 j else 0)))
                  case atStart =>
                    refine ⟨0, Nat.zero_le _, rfl, ?_, rfl, HS.out.congr (fun _ _ => rfl) (fun i _ => by rw [if_neg (by omega)])⟩
                    rw [show 0 - 1 - b3 = 0 by omega, Int.pow_zero, Int.mul_one]
                  case round =>
                    obtain ⟨i, hi, rfl, rfl, rfl, HR⟩ := hrel
                    have k := HC.out _ HR.out.t
                    obtain ⟨⟨c0, c1, c2, c3⟩, -, cB, fz⟩ := HR.out.cells
                    have s0 := k.s0
                    have s1 := k.s1
                    have o2 := k.o2
                    have o6 := k.o6
                    clear k
                    by_cases hlt : i < m + 2
                    · have hlt2 : (i : Int) < (m : Int) + 2 := by omega
                      have f2 := fz gB i (.inr (.inr (.inl rfl)))
                      have xB := cB i hlt
                      have HSB := Lib.hid (fun v => HR.out.setB i v)
                      have hset : ∀ v, v = fsz tt bt mt b3 i → ∀ j, j < m + 2 → (if j = i then v else if j < i then fsz tt bt mt b3 j else 0) = if j < i + 1 then fsz tt bt mt b3 j else 0 := fun v hv j _ => by
                        by_cases e : j = i
                        · rw [if_pos e, if_pos (by omega), hv, e]
                        · by_cases e2 : j < i
                          · rw [if_neg e, if_pos e2, if_pos (by omega)]
                          · rw [if_neg e, if_neg e2, if_neg (by omega)]
                      have HSET := Lib.hid hset
                      have HLT := Lib.hid hlt
                      clear fz cB hset hlt
                      cases i with
                      | zero =>
                        have HSC := Lib.hid ((HSB.out mt).congr (fun _ _ => rfl) (HSET.out mt rfl))
                        clear HSB HSET
                        go_upto_region 35 with fail
                        go_region
                        clear c0 c1 c2 c3 s0 s1 o2 o6 f2 xB
                        generalize wr.setCell ⟨gB, 0, none⟩ (.int .i64 mt) = wz at *
                        go_wp2_with fail
                        go_roundg (m + 2 - (0 + 1))
                        case rel => exact ⟨0 + 1, by have := HLT.out; omega, rfl, by rw [show 0 - 1 - b3 = 0 by omega], by go_num, HSC.out.tch (Tch.drew (Tch.refl _ _))⟩
                        case measure => have := HLT.out; omega
                      | succ q =>
                        have hq0 : ¬ ((q : Int) + 1 = 0) := by omega
                        have hq1 : decide ((q : Int) + 1 = 0) = false := by simp; omega
                        have hq2 : ((q : Int) + 1 == 0) = false := by simp; omega
                        by_cases hle : q + 1 ≤ b3
                        · have hle2 : (q : Int) + 1 ≤ (b3 : Int) := by omega
                          have e1 : q + 1 - 1 - b3 = 0 := by omega
                          have e2 : q + 1 + 1 - 1 - b3 = 0 := by omega
                          have e3 : q + 1 - b3 = 0 := by omega
                          have HSC := Lib.hid ((HSB.out (bt * tt ^ (q + 1 - 1 - b3))).congr (fun _ _ => rfl) (HSET.out _ (show _ = bt * tt ^ (q + 1 - b3) by rw [e1, e3])))
                          have HE := Lib.hid (show bt * tt ^ (q + 1 - 1 - b3) = bt * tt ^ (q + 1 + 1 - 1 - b3) by rw [e1, e2])
                          generalize bt * tt ^ (q + 1 - 1 - b3) = ts at *
                          clear HSB HSET e1 e2 e3 hle
                          go_upto_region 33 with fail
                          clear c0 c1 c2 c3 s0 s1 o2 o6 f2 xB
                          generalize wr.setCell ⟨gB, q + 1, none⟩ (.int .i64 ts) = wz at *
                          go_wp2_with fail
                          go_roundg (m + 2 - (q + 1 + 1))
                          case rel => exact ⟨q + 1 + 1, by have := HLT.out; omega, rfl, by rw [HE.out], by go_num, HSC.out⟩
                          case measure => have := HLT.out; omega
                        · have hle2 : (b3 : Int) < (q : Int) + 1 := by omega
                          have e1 : q + 1 + 1 - 1 - b3 = q + 1 - 1 - b3 + 1 := by omega
                          have e3 : q + 1 - b3 = q + 1 - 1 - b3 + 1 := by omega
                          have hbd := fs_bound HB.out.2.1 HB.out.2.2.2.1 (i := q + 1 - 1 - b3 + 1) (by have := HLT.out; omega)
                          have hw : IntKind.i64.wrap (bt * tt ^ (q + 1 - 1 - b3) * tt) = bt * tt ^ (q + 1 - 1 - b3) * tt := by
                            rw [Int.pow_succ, ← Int.mul_assoc] at hbd
                            exact wrapT (by omega) (by omega)
                          have HSC := Lib.hid ((HSB.out (bt * tt ^ (q + 1 - 1 - b3) * tt)).congr (fun _ _ => rfl) (HSET.out _ (show _ = bt * tt ^ (q + 1 - b3) by rw [e3, Int.pow_succ, Int.mul_assoc])))
                          have HE := Lib.hid (show bt * tt ^ (q + 1 - 1 - b3) * tt = bt * tt ^ (q + 1 + 1 - 1 - b3) by rw [e1, Int.pow_succ, Int.mul_assoc])
                          generalize bt * tt ^ (q + 1 - 1 - b3) = ts at *
                          clear HSB HSET e1 e3 hle hbd
                          go_upto_region 33 with fail
                          clear c0 c1 c2 c3 s0 s1 o2 o6 f2 xB
                          generalize wr.setCell ⟨gB, q + 1, none⟩ (.int .i64 (ts * tt)) = wz at *
                          go_wp2_with fail
                          go_roundg (m + 2 - (q + 1 + 1))
                          case rel => exact ⟨q + 1 + 1, by have := HLT.out; omega, rfl, by rw [HE.out], by go_num, HSC.out⟩
                          case measure => have := HLT.out; omega
                    · obtain rfl : i = m + 2 := by omega
                      clear hlt
                      have hb3 : ¬ ((b3 : Int) = 0) := by have := HR3.out; omega
                      have hb4 : decide ((b3 : Int) = 0) = false := by simpa using hb3
                      have hb5 : ((b3 : Int) == 0) = false := by simpa using hb3
                      have hb6 : decide (b3 = 0) = false := by simp; omega
                      have hb7 : (b3 == 0) = false := by simp; omega
                      have q0 : wr.cell? ⟨w.heap.size + 1, 0, none⟩ = some (.int .i64 0) := by rw [cell_of_row wr _ _ _ 98 (0, 0) HR.out.res]; rfl
                      have q1 : wr.cell? ⟨w.heap.size + 1, 1, none⟩ = some (.slice none 0 0) := by rw [cell_of_row wr _ _ _ 98 (0, 0) HR.out.res]; rfl
                      have q2 : wr.cell? ⟨w.heap.size + 1, 2, none⟩ = some (.slice none 0 0) := by rw [cell_of_row wr _ _ _ 98 (0, 0) HR.out.res]; rfl
                      have g0 := fz (w.heap.size + 1) 0 (.inr (.inr (.inr rfl)))
                      have g1 := fz (w.heap.size + 1) 1 (.inr (.inr (.inr rfl)))
                      have g2 := fz (w.heap.size + 1) 2 (.inr (.inr (.inr rfl)))
                      have HLAST := Lib.hid (HR.out.last (.int .i64 b3) (.slice (some ⟨gA, 0, none⟩) (m + 2) (m + 2)) (.slice (some ⟨gB, 0, none⟩) (m + 2) (m + 2)))
                      clear hb3 fz cB
                      go_wp2_with fail
                      (try simp only [Exit.inBlock, Exit.then])
                      refine bodyPost_ret (results_cell_row rfl _ _ (w.heap.size + 1) 98 #[.int .i64 b3, .slice (some ⟨gA, 0, none⟩) (m + 2) (m + 2), .slice (some ⟨gB, 0, none⟩) (m + 2) (m + 2)] (0, 0) _ rfl HLAST.out.1 Try.underlying98 rfl (by kernel_rfl)) rfl ?_
                      exact ⟨b3, gA, gB, rfl, by rw [HLAST.out.2.1], by rw [HLAST.out.2.2.1]; exact congrArg (fun x => some (Obj.cells x 2 (0, 0))) (arr_congr (fun i hi => by rw [if_pos hi])), HG.out, HLAST.out.2.2.2⟩
      | succ q =>
        have HADJ := Lib.hid (adjust_any w.heap.size gs go bl (dbF (T (m + 1)) lt (m + 1 - (q + 1))) wr c0 HCw.out.s1 HCw.out.o4)
        have HSA := Lib.hid (fun v => HR.out.2.setA (q + 1) v)
        have htg : tg (m + 2) (T (m + 1)) lt bl (q + 1) = if dbF (T (m + 1)) lt (m + 1 - (q + 1)) < bl then bl else dbF (T (m + 1)) lt (m + 1 - (q + 1)) := by
          unfold tg
          rw [if_neg (by omega), show m + 2 - 1 - (q + 1) = m + 1 - (q + 1) by omega]
        rw [← htg] at HADJ
        have hqm : (q : Int) + 1 < (m : Int) + 2 := by omega
        have hq0 : (0 : Int) < (q : Int) + 1 := by omega
        have f1 := fz (q + 1)
        have x1 := HR.out.2.cells.2.1 (q + 1) (by omega)
        clear fz
        generalize hdb : dbF (T (m + 1)) lt (m + 1 - (q + 1)) = db at *
        generalize htv : tg (m + 2) (T (m + 1)) lt bl (q + 1) = tv at *
        have HTV := Lib.hid htv
        have HDB := Lib.hid hdb
        have HTG := Lib.hid htg
        clear htv hdb htg
        go_upto_region 9 with (go_at_call 53; refine HADJ.out.mono ?_; rintro e w5 ⟨rfl, hw⟩; rw [hw]; clear hw)
        have HS1 := Lib.hid (HSA.out tv)
        clear HSA HADJ c0 c1 c2 c3 f1 x1 HCw
        generalize wr.setCell ⟨gA, q + 1, none⟩ (.int .i64 tv) = wy at *
        have hset : ∀ j, j < m + 2 → (if j = q + 1 then tv else if q + 1 < j then tg (m + 2) (T (m + 1)) lt bl j else 0) = if q < j then tg (m + 2) (T (m + 1)) lt bl j else 0 := fun j _ => by
          by_cases e : j = q + 1
          · rw [if_pos e, if_pos (by omega), e]; exact HTV.out.symm
          · by_cases e2 : q + 1 < j
            · rw [if_neg e, if_pos e2, if_pos (by omega)]
            · rw [if_neg e, if_neg e2, if_neg (by omega)]
        have HS2 := Lib.hid (HS1.out.congr hset (fun _ _ => rfl))
        have HDBQ : Hid (db.tdiv lt = dbF (T (m + 1)) lt (m + 1 - q)) := Lib.hid (by
          rw [show m + 1 - q = (m + 1 - (q + 1)) + 1 by omega]; show _ = (dbF _ _ _).tdiv lt; rw [HDB.out])
        have hwq : IntKind.i64.wrap (db.tdiv lt) = db.tdiv lt := by
          have h0 := HT.out (m + 1) (by omega)
          have h1 := dbF_nonneg h0.1 HB.out.1.1 (m + 1 - q)
          have h2 := dbF_le h0.1 HB.out.1.1 (m + 1 - q)
          rw [HDBQ.out]
          exact wrapT (by omega) (by omega)
        have hl0 : decide (lt = 0) = false := by have := HB.out.1; simp; omega
        have hl1 : (lt == 0) = false := by have := HB.out.1; simp; omega
        have hl2 : ¬ lt = 0 := by have := HB.out.1; omega
        have HL := Lib.hid HR.out.1
        clear hset HS1 HR
        by_cases hb0 : b = 0
        · subst hb0
          obtain ⟨⟨c0, c1, c2, c3⟩, -⟩ := HS2.out.cells
          have s1 := (HC.out _ HS2.out.t).s1
          have o4 := (HC.out _ HS2.out.t).o4
          by_cases hle : tv ≤ bl
          · have HL2 := Lib.hid (HL.out.hit (by omega) (show tg (m + 2) (T (m + 1)) lt bl (q + 1) ≤ bl by rw [HTV.out]; exact hle))
            have hd : decide (tv ≤ bl) = true := by simpa using hle
            have f2 := HS2.out.cells.2.2.2 gt 0 (.inl rfl)
            have HSB := Lib.hid (show TS w (wy.setCell ⟨gt, 0, none⟩ (.int .i64 ((q : Int) + 1))) gs w.heap.size (w.heap.size + 1) gt gA gB (m + 2) ((q + 1 : Nat) : Int) (fun j => if q < j then tg (m + 2) (T (m + 1)) lt bl j else 0) (fun _ => 0) from HS2.out.setBase ((q : Int) + 1))
            clear hle
            go_upto_region 11 with fail
            clear c0 c1 c2 c3 s1 o4 f2
            generalize wy.setCell ⟨gt, 0, none⟩ (.int .i64 ((q : Int) + 1)) = wz at *
            obtain ⟨⟨c0, c1, c2, c3⟩, -⟩ := HSB.out.cells
            have s1 := (HC.out _ HSB.out.t).s1
            have o1 := (HC.out _ HSB.out.t).o1
            go_wp2_with fail
            go_roundg q
            case rel => exact ⟨q, q + 1, by omega, rfl, by rw [← HDBQ.out], by go_num, HL2.out, HSB.out⟩
            case measure => omega
          · have HL2 := Lib.hid (HL.out.miss (show ¬ tg (m + 2) (T (m + 1)) lt bl (q + 1) ≤ bl by rw [HTV.out]; exact hle))
            have hd : decide (tv ≤ bl) = false := by simpa using hle
            clear hle
            go_upto_region 11 with fail
            clear c0 c1 c2 c3 s1 o4
            obtain ⟨⟨c0, c1, c2, c3⟩, -⟩ := HS2.out.cells
            have s1 := (HC.out _ HS2.out.t).s1
            have o1 := (HC.out _ HS2.out.t).o1
            go_wp2_with fail
            go_roundg q
            case rel => exact ⟨q, 0, by omega, rfl, by rw [← HDBQ.out], by go_num, HL2.out, HS2.out⟩
            case measure => omega
        · have HL2 := Lib.hid (HL.out.keep hb0)
          obtain ⟨⟨c0, c1, c2, c3⟩, -⟩ := HS2.out.cells
          have hd1 : decide ((b : Int) = 0) = false := by simpa using hb0
          have hd2 : ((b : Int) == 0) = false := by simpa using hb0
          have hd3 : decide (b = 0) = false := by simpa using hb0
          have hd4 : (b == 0) = false := by simpa using hb0
          clear hb0
          go_upto_region 11 with fail
          clear c0 c1 c2 c3 hd1 hd2 hd3 hd4
          obtain ⟨⟨c0, c1, c2, c3⟩, -⟩ := HS2.out.cells
          have s1 := (HC.out _ HS2.out.t).s1
          have o1 := (HC.out _ HS2.out.t).o1
          go_wp2_with fail
          go_roundg q
          case rel => exact ⟨q, b, by omega, rfl, by rw [← HDBQ.out], by go_num, HL2.out, HS2.out⟩
          case measure => omega

end Go.Proofs.Ytdofgamahjmohaa
