/- What the laws of tries read: holes, fits, alike, small. -/
import Derived.Test.YtcolffccbmpndaaGreatDoorTrX
import Derived.Test.YtcolffccbmpndaaGreatDoorIgV
namespace Go.Proofs.YtcolffccbmpndaaGreatDoor
open Go.RowKit Go.Deep
set_option maxRecDepth 100000

/-- A list of truth values in memory. -/
def BlAt (w : World) (v : Value) (n : Nat) (f : Nat → Bool) : Prop :=
  ∃ a c, v = .slice a n c ∧ (0 < n → ∃ ad : Addr, a = some ad ∧ ∀ j, j < n → w.cell? (ad.add j) = some (.bool (f j)))
theorem BlAt.tch {w w' : World} {v : Value} {n : Nat} {f : Nat → Bool} (h : BlAt w v n f) (t : Tch [] w w') : BlAt w' v n f := by
  obtain ⟨a, c, rfl, h2⟩ := h
  refine ⟨a, c, rfl, fun hn => ?_⟩
  obtain ⟨ad, rfl, h3⟩ := h2 hn
  exact ⟨ad, rfl, fun j hj => cell_tch (h3 j hj) t⟩
theorem Own.blAt {w0 w : World} {a : Option Addr} {n c : Nat} {f : Nat → Bool} (h : Own w0 w 4 1 (.slice a n c) n (bl n f)) : BlAt w (.slice a n c) n f := by
  refine ⟨a, c, rfl, fun hn => ?_⟩
  obtain ⟨g, rfl, -, hc, -⟩ := h.rowCell hn
  exact ⟨⟨g, 0, none⟩, rfl, fun j hj => by rw [addr_add0]; exact hc j _ (by unfold bl; simp [hj])⟩

theorem open_any (v : Value) (n : Nat) (f : Nat → Bool) (i : Nat) (w : World) (h : BlAt w v n f) (hn : n ≤ 4611686018427387904) (hi : i ≤ 4611686018427387904) :
    Calls Tryz.prog 35 #[v, .int .i64 i] w fun e w' => e = .returned (.bool (decide (i < n) && f i)) ∧ w' = w := by
  obtain ⟨a, c, rfl, h2⟩ := h
  by_cases hlt : i < n
  · obtain ⟨ad, rfl, h3⟩ := h2 (by omega)
    have hc := h3 i hlt
    have hlt2 : (i : Int) < (n : Int) := by omega
    have hd : decide (i < n) = true := decide_eq_true hlt
    rw [hd, Bool.true_and]
    generalize f i = b at hc ⊢
    clear h2 h3
    go_enter Tryz.func35, Tryz.ntmps35
    go_wp2_with fail
    go_ret
    exact ⟨rfl, rfl⟩
  · have hd : decide (i < n) = false := decide_eq_false hlt
    have hd2 : decide ((i : Int) < (n : Int)) = false := decide_eq_false (by omega)
    have hge : (n : Int) ≤ (i : Int) := by omega
    rw [hd, Bool.false_and]
    clear h2 hlt
    go_enter Tryz.func35, Tryz.ntmps35
    go_wp2_with fail
    go_ret
    exact ⟨rfl, rfl⟩

/-- When a prefix with holes begins a key. -/
theorem pathOf_cons (f : Nat → Bool) (x : Int) (l : List Int) : pathOf f (x :: l) = hopAt f (x :: l) 0 :: pathOf (fun i => f (i + 1)) l := by
  unfold pathOf
  rw [List.length_cons, List.range_succ_eq_map, List.map_cons, List.map_map]
  rfl
theorem fitsP_iff : ∀ (l : List Int) (f : Nat → Bool) (key : List Int), fitsP (pathOf f l) key = true ↔ l.length ≤ key.length ∧ ∀ i, i < l.length → f i = true ∨ key.getD i 0 = l.getD i 0 := by
  intro l
  induction l with
  | nil => intro f key; simp [pathOf, fitsP]
  | cons x l ih =>
    intro f key
    rw [pathOf_cons]
    cases key with
    | nil =>
      constructor
      · intro h
        have e : fitsP (hopAt f (x :: l) 0 :: pathOf (fun i => f (i + 1)) l) [] = false := by cases hopAt f (x :: l) 0 <;> rfl
        rw [e] at h
        simp at h
      · rintro ⟨h, -⟩; simp at h
    | cons y key =>
      have hh : fitsP (hopAt f (x :: l) 0 :: pathOf (fun i => f (i + 1)) l) (y :: key) = ((f 0 || decide (y = x)) && fitsP (pathOf (fun i => f (i + 1)) l) key) := by
        have e : (x == y) = decide (y = x) := by
          by_cases h : y = x
          · subst h; simp
          · have h2 : ¬ x = y := fun e => h e.symm
            simp [h, h2]
        cases h0 : f 0 with
        | true =>
          have e2 : hopAt f (x :: l) 0 = none := by unfold hopAt; rw [h0]; rfl
          rw [e2]; rfl
        | false =>
          have e2 : hopAt f (x :: l) 0 = some x := by unfold hopAt; rw [h0]; rfl
          rw [e2, Bool.false_or, ← e]; rfl
      rw [hh, Bool.and_eq_true, ih (fun i => f (i + 1)) key]
      constructor
      · rintro ⟨h1, h2, h3⟩
        refine ⟨by simp; omega, fun i hi => ?_⟩
        cases i with
        | zero => simpa using h1
        | succ i => simpa using h3 i (by simpa using hi)
      · rintro ⟨h1, h2⟩
        refine ⟨by simpa using h2 0 (by simp), by simpa using h1, fun i hi => by simpa using h2 (i + 1) (by simpa using hi)⟩

set_option maxHeartbeats 1000000 in
theorem fits_any (w : World) (l key : List Int) (ba ka : Option Addr) (bc kc : Nat) (hb : By w l ba bc) (hk : By w key ka kc) (v : Value) (n : Nat) (f : Nat → Bool) (hv : BlAt w v n f) (hn : n ≤ 1000000) (hl : l.length ≤ 1000000) (hkl : key.length ≤ 1000000) :
    Calls Tryz.prog 19 #[.slice ba l.length bc, v, .slice ka key.length kc] w fun e w' => e = .returned (.bool (fitsP (pathOf (fun i => decide (i < n) && f i) l) key)) ∧ w' = w := by
  have hff := fitsP_iff l (fun i => decide (i < n) && f i) key
  generalize fitsP (pathOf (fun i => decide (i < n) && f i) l) key = b at hff ⊢
  have hlI : (l.length : Int) ≤ 1000000 := by omega
  have hkI : (key.length : Int) ≤ 1000000 := by omega
  by_cases hlen : l.length ≤ key.length
  · have HB := Lib.hid hb
    have HK := Lib.hid hk
    have HF := Lib.hid hff
    have HO := Lib.hid (fun (i : Nat) (hi : i ≤ 1000000) => open_any v n f i w hv (by omega) (by omega))
    have HLEN := Lib.hid hlen
    have HLL := Lib.hid hl
    have h1 : (l.length : Int) ≤ (key.length : Int) := by omega
    have h2 : decide ((key.length : Int) < (l.length : Int)) = false := decide_eq_false (by omega)
    have h3 : decide (key.length < l.length) = false := decide_eq_false (by omega)
    clear hb hk hff hv hn hl hkl hlen
    go_enter Tryz.func19, Tryz.ntmps19
    go_wp2_with fail
    clear h2 h3
    go_loopg [16] l.length (fun nn s16 wr => ∃ i : Nat, i ≤ l.length ∧ nn = l.length - i ∧ s16 = .int .i64 i ∧ wr = w ∧ Hid (∀ j, j < i → (decide (j < n) && f j) = true ∨ key.getD j 0 = l.getD j 0))
    case atStart => exact ⟨0, Nat.zero_le _, rfl, rfl, rfl, fun j hj => absurd hj (Nat.not_lt_zero j)⟩
    case round =>
      obtain ⟨i, hi, rfl, rfl, rfl, HZ⟩ := hrel
      rename World => wr
      by_cases hlt : i < l.length
      · have HLT := Lib.hid hlt
        have hlt2 : (i : Int) < (l.length : Int) := by omega
        have hlt3 : (i : Int) < (key.length : Int) := by omega
        obtain ⟨ad, rfl⟩ : ∃ ad, ba = some ad := by
          cases ba with
          | some ad => exact ⟨ad, rfl⟩
          | none => have := (HB.out.nil rfl).2; rw [this] at hlt; simp at hlt
        obtain ⟨kd, rfl⟩ : ∃ kd, ka = some kd := by
          cases ka with
          | some kd => exact ⟨kd, rfl⟩
          | none => have := (HK.out.nil rfl).2; have := HLEN.out; simp_all
        have hcb := (HB.out.cell ad rfl i hlt).2
        have hck := (HK.out.cell kd rfl i (by have := HLEN.out; omega)).2
        have HOI := Lib.hid (HO.out i (by have := HLL.out; omega))
        have HSTEP : Hid ((decide (i < n) && f i) = true ∨ key.getD i 0 = l.getD i 0 → ∀ j, j < i + 1 → (decide (j < n) && f j) = true ∨ key.getD j 0 = l.getD j 0) := Lib.hid (fun h j hj => by
          by_cases e : j = i
          · rw [e]; exact h
          · exact HZ.out j (by omega))
        have HBAD : Hid (¬ ((decide (i < n) && f i) = true ∨ key.getD i 0 = l.getD i 0) → b = false) := Lib.hid (fun h => by
          cases hb : b with
          | false => rfl
          | true => exact absurd ((HF.out.1 hb).2 i hlt) h)
        generalize l.getD i 0 = x at *
        generalize key.getD i 0 = y at *
        generalize (decide (i < n) && f i) = o at *
        clear hlt hi
        go_wp2_with fail
        refine HOI.out.mono ?_
        rintro e w2 ⟨rfl, hw⟩
        rw [hw]
        clear hw
        cases o with
        | true =>
          go_wp2_with fail
          go_roundg (l.length - (i + 1))
          case rel => exact ⟨i + 1, HLT.out, rfl, by go_num, rfl, HSTEP.out (by simp)⟩
          case measure => have := HLT.out; omega
        | false =>
          by_cases hxy : y = x
          · have hb1 : (y != x) = false := by simpa using hxy
            have hb2 : (y == x) = true := by simpa using hxy
            have HXY := Lib.hid hxy
            clear hxy
            go_wp2_with fail
            go_roundg (l.length - (i + 1))
            case rel => exact ⟨i + 1, HLT.out, rfl, by go_num, rfl, HSTEP.out (.inr HXY.out)⟩
            case measure => have := HLT.out; omega
          · have hb1 : (y != x) = true := by simpa using hxy
            have hb2 : (y == x) = false := by simpa using hxy
            have HBF := Lib.hid (HBAD.out (by simp [hxy]))
            clear hxy
            go_wp2_with fail
            go_ret
            exact ⟨by rw [HBF.out]; rfl, rfl⟩
      · obtain rfl : i = l.length := by omega
        have HBT : Hid (b = true) := Lib.hid (HF.out.2 ⟨HLEN.out, HZ.out⟩)
        clear hlt hi
        go_wp2_with fail
        go_ret
        exact ⟨by rw [HBT.out]; rfl, rfl⟩
  · have HBF : Hid (b = false) := Lib.hid (by
      cases hb : b with
      | false => rfl
      | true => exact absurd (hff.1 hb).1 hlen)
    have h1 : (key.length : Int) < (l.length : Int) := by omega
    clear hff hlen hb hk hv hn hl hkl
    go_enter Tryz.func19, Tryz.ntmps19
    go_wp2_with fail
    go_ret
    exact ⟨by rw [HBF.out]; rfl, rfl⟩

/-- Numbers in memory. -/
structure UAt (w : World) (a : Option Addr) (l : List Int) : Prop where
  cell : ∀ j, j < l.length → ∃ ad, a = some ad ∧ w.cell? (ad.add j) = some (.int .u64 (l.getD j 0))
theorem UAt.tch {w w' : World} {a : Option Addr} {l : List Int} (h : UAt w a l) (t : Tch [] w w') : UAt w' a l :=
  ⟨fun j hj => by obtain ⟨ad, h1, h2⟩ := h.cell j hj; exact ⟨ad, h1, cell_tch h2 t⟩⟩
theorem UAt.of_row {w : World} {base : Nat} {a : Option Addr} {n c : Nat} {l : List Int} (h : w.ownsRow base 26 1 (.slice a n c) n (uV l)) : UAt w a l ∧ l.length = n := by
  have hlen : l.length = n := by have := h.1; unfold uV at this; simp at this; omega
  refine ⟨⟨fun j hj => ?_⟩, hlen⟩
  obtain ⟨g, cap, e, -⟩ := ownsRow_value h (by omega)
  simp only [Value.slice.injEq, true_and] at e
  obtain ⟨rfl, rfl⟩ := e
  exact ⟨_, rfl, (own_cell h (j := j) (u := .int .u64 (l.getD j 0)) (by unfold uV; simp [List.getD, List.getElem?_eq_getElem hj])).2⟩

set_option maxHeartbeats 1000000 in
theorem alike_any (w : World) (l m : List Int) (a b : Option Addr) (c d : Nat) (ha : UAt w a l) (hb : UAt w b m) (hl : l.length ≤ 100000000) (hm : m.length ≤ 100000000) :
    Calls Tryz.prog 20 #[.slice a l.length c, .slice b m.length d] w fun e w' => e = .returned (.bool (decide (l = m))) ∧ Tch [] w w' := by
  have hlI : (l.length : Int) ≤ 100000000 := by omega
  have hmI : (m.length : Int) ≤ 100000000 := by omega
  by_cases hlen : l.length = m.length
  · have HA := Lib.hid ha
    have HB := Lib.hid hb
    have HLEN := Lib.hid hlen
    have h2 : ((l.length : Int) != (m.length : Int)) = false := by rw [bne_eq_false_iff_eq]; omega
    have h3 : (l.length == m.length) = true := beq_iff_eq.2 hlen
    rw [← hlen] at h2 h3 ⊢
    clear ha hb hl hm hlen
    go_enter Tryz.func20, Tryz.ntmps20
    go_wp2_with fail
    clear h2 h3
    go_loopg [13] l.length (fun nn s13 wr => ∃ i : Nat, i ≤ l.length ∧ nn = l.length - i ∧ s13 = .int .i64 i ∧ Hid (Tch [] w wr ∧ ∀ j, j < i → l.getD j 0 = m.getD j 0))
    case atStart => exact ⟨0, Nat.zero_le _, rfl, rfl, Tch.refl _ _, fun j hj => absurd hj (Nat.not_lt_zero j)⟩
    case round =>
      obtain ⟨i, hi, rfl, rfl, HZ⟩ := hrel
      rename World => wr
      by_cases hlt : i < l.length
      · have HLT := Lib.hid hlt
        have hlt2 : (i : Int) < (l.length : Int) := by omega
        obtain ⟨ad, rfl, hca⟩ := (HA.out.tch HZ.out.1).cell i hlt
        obtain ⟨bd, rfl, hcb⟩ := (HB.out.tch HZ.out.1).cell i (by rw [← HLEN.out]; exact hlt)
        have HNE : Hid (l.getD i 0 ≠ m.getD i 0 → l ≠ m) := Lib.hid (fun h e => h (by rw [e]))
        have HSTEP : Hid (l.getD i 0 = m.getD i 0 → ∀ j, j < i + 1 → l.getD j 0 = m.getD j 0) := Lib.hid (fun h j hj => by
          by_cases e : j = i
          · rw [e]; exact h
          · exact HZ.out.2 j (by omega))
        generalize l.getD i 0 = x at *
        generalize m.getD i 0 = y at *
        clear hlt hi
        by_cases hxy : x = y
        · have hb1 : (x != y) = false := by simpa using hxy
          have hb2 : (x == y) = true := by simpa using hxy
          have HXY := Lib.hid hxy
          clear hxy
          go_wp2_with fail
          go_quiet (fail)
          go_wp2_with fail
          go_roundg (l.length - (i + 1))
          case rel => exact ⟨i + 1, HLT.out, rfl, by go_num, HZ.out.1.drewN _, HSTEP.out HXY.out⟩
          case measure => have := HLT.out; omega
        · have hb1 : (x != y) = true := by simpa using hxy
          have hb2 : (x == y) = false := by simpa using hxy
          have HNX := Lib.hid (HNE.out hxy)
          clear hxy
          go_wp2_with fail
          go_quiet (fail)
          go_wp2_with fail
          go_ret
          exact ⟨by rw [decide_eq_false HNX.out]; rfl, HZ.out.1.drewN _⟩
      · obtain rfl : i = l.length := by omega
        have HEQ : Hid (l = m) := Lib.hid (by
          apply List.ext_getElem HLEN.out
          intro j h1 h2
          have := HZ.out.2 j h1
          simpa [List.getD, List.getElem?_eq_getElem h1, List.getElem?_eq_getElem h2] using this)
        clear hlt hi
        go_wp2_with fail
        go_ret
        exact ⟨by rw [decide_eq_true HEQ.out]; rfl, HZ.out.1⟩
  · have HNX : Hid (l ≠ m) := Lib.hid (fun e => hlen (by rw [e]))
    have h2 : ((l.length : Int) != (m.length : Int)) = true := bne_iff_ne.2 (by omega)
    have h4 : ((l.length : Int) == (m.length : Int)) = false := beq_eq_false_iff_ne.2 (by omega)
    have h3 : (l.length == m.length) = false := beq_eq_false_iff_ne.2 hlen
    clear ha hb hl hm hlen
    go_enter Tryz.func20, Tryz.ntmps20
    go_wp2_with fail
    go_ret
    exact ⟨by rw [decide_eq_false HNX.out]; rfl, Tch.refl _ _⟩

end Go.Proofs.YtcolffccbmpndaaGreatDoor
