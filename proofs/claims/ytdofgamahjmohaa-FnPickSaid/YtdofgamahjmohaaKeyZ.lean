/- Ranges of keys in memory: whether they meet. -/
import Derived.Test.YtdofgamahjmohaaKeyY
namespace Go.Proofs.Ytdofgamahjmohaa
open Go.RowKit
set_option maxRecDepth 100000

/-- A key with a version in memory, at the head of a block. -/
structure KeyAt (w : World) (k : Kv) (g c : Nat) : Prop where
  by' : By w (kb k) (some ⟨g, 0, none⟩) c
  ver : okV k.ver

theorem kb_len (k : Kv) : (kb k).length = k.key.length + 8 := by unfold kb; rw [List.length_append, kts_len]
theorem kb_u8 {k : Kv} (h : ∀ x ∈ k.key, 0 ≤ x ∧ x < 256) (hv : okV k.ver) : ∀ x ∈ kb k, 0 ≤ x ∧ x < 256 := by
  intro x hx
  unfold kb kts at hx
  rcases List.mem_append.1 hx with hx | hx
  · exact h x hx
  · unfold okV at hv
    exact be64_b (by omega) x hx

theorem KeyAt.tch {w w' : World} {k : Kv} {g c : Nat} (h : KeyAt w k g c) (t : Tch [] w w') : KeyAt w' k g c := ⟨h.by'.tch t, h.ver⟩
theorem KeyAt.key {w : World} {k : Kv} {g c : Nat} (h : KeyAt w k g c) : By w k.key (some ⟨g, 0, none⟩) c := by
  have h1 := h.by'
  have hl := kb_len k
  refine ⟨by have := h1.cap; omega, by simp, fun ad hd j hj => ?_, fun x hx => h1.u8 x (List.mem_append_left _ hx)⟩
  obtain ⟨a, b⟩ := h1.cell ad hd j (by omega)
  refine ⟨a, ?_⟩
  rw [b]
  unfold kb
  simp [List.getD, List.getElem?_append, hj]
theorem KeyAt.ts {w : World} {k : Kv} {g c : Nat} (h : KeyAt w k g c) : By w (kts k.ver) (some ⟨g, k.key.length, none⟩) (c - k.key.length) := by
  have h1 := h.by'
  have hl := kb_len k
  refine ⟨by have := h1.cap; rw [kts_len]; omega, by simp, fun ad hd j hj => ?_, fun x hx => h1.u8 x (List.mem_append_right _ hx)⟩
  rw [kts_len] at hj
  simp only [Option.some.injEq] at hd
  subst hd
  obtain ⟨a, b⟩ := h1.cell ⟨g, 0, none⟩ rfl (k.key.length + j) (by omega)
  have e1 : (⟨g, 0, none⟩ : Addr).add (k.key.length + j) = ⟨g, k.key.length + j, none⟩ := by unfold Addr.add; split <;> simp_all
  have e2 : (⟨g, k.key.length, none⟩ : Addr).add j = ⟨g, k.key.length + j, none⟩ := by unfold Addr.add; split <;> simp_all
  rw [e1] at b
  rw [e2]
  refine ⟨a, ?_⟩
  rw [b]
  unfold kb
  simp [List.getD, List.getElem?_append]
  rw [if_neg (by omega)]

theorem quiet_add_same {P : Program} {f : FuncId} {args : Array Value} {w : World} {a n : Nat} {v : Value}
    (h : Calls P f args (w.drewN (a + n)) fun e w' => e = .returned v ∧ w' = w.drewN (a + n)) :
    Calls P f args (w.drewN (a + n)) fun e w'' => e = .returned v ∧ ∃ m, w'' = w.drewN (a + m) :=
  h.mono fun _ _ ⟨he, hm⟩ => ⟨he, n, hm⟩

theorem kcmp_parts {k1 k2 : Kv} (h1 : okV k1.ver) (h2 : okV k2.ver) : kcmp k1 k2 = if cmpI k1.key k2.key = 0 then cmpI (kts k1.ver) (kts k2.ver) else cmpI k1.key k2.key := by
  unfold kcmp; rw [kts_cmp h1 h2]

def Drawn (w : World) (v : Value) (e : Ending) (w' : World) : Prop := e = .returned v ∧ ∃ n, w' = w.drewN n
theorem Drawn.tch {w w' : World} {v : Value} {e : Ending} (h : Drawn w v e w') : Tch [] w w' := by
  obtain ⟨-, n, rfl⟩ := h
  exact (Tch.refl _ _).drewN n

abbrev keyV (g n c : Nat) : Value := .slice (some ⟨g, 0, none⟩) (n + 8) c

set_option maxHeartbeats 1000000 in
theorem compareKeys_any (k1 k2 : Kv) (g1 c1 g2 c2 : Nat) (w : World) (l1 : k1.key.length ≤ 2147483647) (l2 : k2.key.length ≤ 2147483647) (h1 : KeyAt w k1 g1 c1) (h2 : KeyAt w k2 g2 c2) :
    Calls Try.prog 50 #[keyV g1 k1.key.length c1, keyV g2 k2.key.length c2] w (Drawn w (.int .i64 (kcmp k1 k2))) := by
  have hc := kcmp_parts h1.ver h2.ver
  have m1 := h1.by'.cap
  have m2 := h2.by'.cap
  rw [kb_len] at m1 m2
  have n1 : (k1.key.length : Int) + 8 ≤ c1 := by omega
  have n2 : (k2.key.length : Int) + 8 ≤ c2 := by omega
  have p1 : ¬ k1.key.length = c1 := by omega
  have p2 : ¬ k2.key.length = c2 := by omega
  have HA := Lib.hid (fun n => bcompare_any k1.key k2.key (some ⟨g1, 0, none⟩) (some ⟨g2, 0, none⟩) c1 c2 (w.drewN n) (h1.key.tch ((Tch.refl _ _).drewN n)) (h2.key.tch ((Tch.refl _ _).drewN n)))
  have HB := Lib.hid (fun n => bcompare_any (kts k1.ver) (kts k2.ver) (some ⟨g1, k1.key.length, none⟩) (some ⟨g2, k2.key.length, none⟩) (c1 - k1.key.length) (c2 - k2.key.length) (w.drewN n) (h1.ts.tch ((Tch.refl _ _).drewN n)) (h2.ts.tch ((Tch.refl _ _).drewN n)))
  simp only [kts_len] at HB
  generalize k1.key = l at *
  generalize k2.key = m at *
  generalize cmpI l m = r at *
  generalize cmpI (kts k1.ver) (kts k2.ver) = s at *
  clear h1 h2
  by_cases h0 : r = 0
  · have t0 : (r == 0) = true := by simpa using h0
    rw [if_pos h0] at hc
    have HC := Lib.hid hc
    clear hc h0
    go_enter Try.func50, Try.ntmps50
    go_wp2_with fail
    go_quiet ((go_at_call 62; exact Calls.quiet_of_same (HA.out _)))
    go_wp2_with fail
    go_quiet ((go_at_call 62; exact quiet_add_same (HB.out _)))
    go_wp2_with fail
    go_ret
    exact ⟨by rw [HC.out]; rfl, by first | exact ⟨_, rfl⟩ | (rw [World.drewN_drewN]; exact ⟨_, rfl⟩)⟩
  · have t0 : (r == 0) = false := by simpa using h0
    rw [if_neg h0] at hc
    have HC := Lib.hid hc
    clear hc h0
    go_enter Try.func50, Try.ntmps50
    go_wp2_with fail
    go_quiet ((go_at_call 62; exact Calls.quiet_of_same (HA.out _)))
    go_wp2_with fail
    go_ret
    exact ⟨by rw [HC.out]; rfl, by first | exact ⟨_, rfl⟩ | (rw [World.drewN_drewN]; exact ⟨_, rfl⟩)⟩

/-- A range of keys, by value. -/
abbrev rngV (l r : Value) (inf : Bool) (size : Int) : Value := .agg #[l, r, .bool inf, .int .i64 size]

theorem isEmpty_no (g n c : Nat) (r : Value) (inf : Bool) (size : Int) (w : World) :
    Calls Try.prog 49 #[rngV (keyV g n c) r inf size] w fun e w' => e = .returned (.bool false) ∧ Tch [] w w' := by
  have HT := Lib.hid ((Tch.refl [] w).alloc (.cells #[keyV g n c, r, .bool inf, .int .i64 size] 87))
  have t0 : ((n : Int) + 8 == 0) = false := by simp; omega
  go_enter Try.func49, Try.ntmps49
  go_wp2
  go_ret
  exact ⟨rfl, HT.out⟩

/-- Whether two ranges meet. -/
def meetB (k1 k2 : Kv) (i1 : Bool) (k3 k4 : Kv) (i2 : Bool) : Bool := i1 || i2 || (decide (kcmp k1 k4 ≤ 0) && decide (0 ≤ kcmp k2 k3))

set_option maxHeartbeats 2000000 in
theorem overlaps_any (k1 k2 k3 k4 : Kv) (g1 c1 g2 c2 g3 c3 g4 c4 : Nat) (i1 i2 : Bool) (s1 s2 : Int) (w : World) (l1 : k1.key.length ≤ 2147483647) (l2 : k2.key.length ≤ 2147483647) (l3 : k3.key.length ≤ 2147483647) (l4 : k4.key.length ≤ 2147483647)
    (h1 : KeyAt w k1 g1 c1) (h2 : KeyAt w k2 g2 c2) (h3 : KeyAt w k3 g3 c3) (h4 : KeyAt w k4 g4 c4) :
    Calls Try.prog 41 #[rngV (keyV g1 k1.key.length c1) (keyV g2 k2.key.length c2) i1 s1, rngV (keyV g3 k3.key.length c3) (keyV g4 k4.key.length c4) i2 s2] w
      fun e w' => e = .returned (.bool (meetB k1 k2 i1 k3 k4 i2)) ∧ Tch [] w w' := by
  have hB := box2 w (.cells #[keyV g1 k1.key.length c1, keyV g2 k2.key.length c2, .bool i1, .int .i64 s1] 87) (.cells #[keyV g3 k3.key.length c3, keyV g4 k4.key.length c4, .bool i2, .int .i64 s2] 87)
  have T : Tch [] w ((w.alloc (.cells #[keyV g1 k1.key.length c1, keyV g2 k2.key.length c2, .bool i1, .int .i64 s1] 87)).alloc (.cells #[keyV g3 k3.key.length c3, keyV g4 k4.key.length c4, .bool i2, .int .i64 s2] 87)) := ((Tch.refl _ _).alloc _).alloc _
  have HC1 := Lib.hid (fun (w' : World) (t : Tch [] w w') => compareKeys_any k1 k4 g1 c1 g4 c4 w' l1 l4 (h1.tch t) (h4.tch t))
  have HC2 := Lib.hid (fun (w' : World) (t : Tch [] w w') => compareKeys_any k2 k3 g2 c2 g3 c3 w' l2 l3 (h2.tch t) (h3.tch t))
  have HBX := Lib.hid hB
  have HT := Lib.hid T
  have hm : meetB k1 k2 i1 k3 k4 i2 = (i1 || i2 || (decide (kcmp k1 k4 ≤ 0) && decide (0 ≤ kcmp k2 k3))) := rfl
  generalize meetB k1 k2 i1 k3 k4 i2 = mb at *
  generalize k1.key.length = n1 at *
  generalize k2.key.length = n2 at *
  generalize k3.key.length = n3 at *
  generalize k4.key.length = n4 at *
  generalize kcmp k1 k4 = x at *
  generalize kcmp k2 k3 = y at *
  have hcell : ∀ w', Tch [] ((w.alloc (.cells #[keyV g1 n1 c1, keyV g2 n2 c2, .bool i1, .int .i64 s1] 87)).alloc (.cells #[keyV g3 n3 c3, keyV g4 n4 c4, .bool i2, .int .i64 s2] 87)) w' →
      w'.cell? ⟨w.heap.size, 0, none⟩ = some (keyV g1 n1 c1) ∧ w'.cell? ⟨w.heap.size, 1, none⟩ = some (keyV g2 n2 c2) ∧ w'.cell? ⟨w.heap.size, 2, none⟩ = some (.bool i1) ∧ w'.cell? ⟨w.heap.size, 3, none⟩ = some (.int .i64 s1) ∧
      w'.cell? ⟨w.heap.size + 1, 0, none⟩ = some (keyV g3 n3 c3) ∧ w'.cell? ⟨w.heap.size + 1, 1, none⟩ = some (keyV g4 n4 c4) ∧ w'.cell? ⟨w.heap.size + 1, 2, none⟩ = some (.bool i2) ∧ w'.cell? ⟨w.heap.size + 1, 3, none⟩ = some (.int .i64 s2) := by
    intro w' t
    have e1 := t.obj hB.1 (by simp)
    have e2 := t.obj hB.2 (by simp)
    refine ⟨?_, ?_, ?_, ?_, ?_, ?_, ?_, ?_⟩
    all_goals first
      | (rw [cell_of_row w' _ _ _ 87 (0, 0) e1]; rfl)
      | (rw [cell_of_row w' _ _ _ 87 (0, 0) e2]; rfl)
  have HCL := Lib.hid hcell
  have HE := Lib.hid (isEmpty_no)
  clear h1 h2 h3 h4 hB T hcell
  go_enter Try.func41, Try.ntmps41
  go_wp2_with fail
  refine (HE.out _ _ _ _ _ _ _).mono ?_
  rintro e w1 ⟨rfl, t1⟩
  obtain ⟨x0, x1, x2, x3, x4, x5, x6, x7⟩ := HCL.out w1 t1
  have HT1 := Lib.hid t1
  clear t1
  go_wp2_with fail
  refine (HE.out _ _ _ _ _ _ _).mono ?_
  rintro e w2 ⟨rfl, t1⟩
  have HT2 := Lib.hid (HT1.out.trans t1)
  clear x0 x1 x2 x3 x4 x5 x6 x7 t1
  obtain ⟨x0, x1, x2, x3, x4, x5, x6, x7⟩ := HCL.out w2 HT2.out
  cases i1 with
  | true =>
    have HM := Lib.hid (show mb = true by rw [hm]; rfl)
    clear hm
    go_wp2_with fail
    go_ret
    exact ⟨by rw [HM.out]; rfl, HT.out.trans HT2.out⟩
  | false =>
    cases i2 with
    | true =>
      have HM := Lib.hid (show mb = true by rw [hm]; rfl)
      clear hm
      go_wp2_with fail
      go_ret
      exact ⟨by rw [HM.out]; rfl, HT.out.trans HT2.out⟩
    | false =>
      by_cases h1 : 0 < x
      · have HM := Lib.hid (show mb = false by rw [hm]; simp; omega)
        clear hm
        go_wp2_with (go_at_call 50; refine (HC1.out _ (HT.out.trans HT2.out)).mono ?_; rintro e w3 ⟨rfl, n3, rfl⟩)
        go_ret
        exact ⟨by rw [HM.out]; rfl, (HT.out.trans HT2.out).drewN _⟩
      · have t0 : decide (0 < x) = false := by simpa using h1
        by_cases h2 : y < 0
        · have HM := Lib.hid (show mb = false by rw [hm]; simp; omega)
          clear hm h1
          go_wp2_with fail
          refine (HC1.out _ (HT.out.trans HT2.out)).mono ?_
          rintro e w3 ⟨rfl, n3, rfl⟩
          go_wp2_with fail
          refine (HC2.out _ ((HT.out.trans HT2.out).drewN _)).mono ?_
          rintro e w3 ⟨rfl, n4, rfl⟩
          go_wp2_with fail
          go_ret
          exact ⟨by rw [HM.out]; rfl, (HT.out.trans HT2.out).drewN _⟩
        · have t1 : decide (y < 0) = false := by simpa using h2
          have HM := Lib.hid (show mb = true by rw [hm]; simp; omega)
          clear hm h1 h2
          go_wp2_with fail
          refine (HC1.out _ (HT.out.trans HT2.out)).mono ?_
          rintro e w3 ⟨rfl, n3, rfl⟩
          go_wp2_with fail
          refine (HC2.out _ ((HT.out.trans HT2.out).drewN _)).mono ?_
          rintro e w3 ⟨rfl, n4, rfl⟩
          go_wp2_with fail
          go_ret
          exact ⟨by rw [HM.out]; rfl, (HT.out.trans HT2.out).drewN _⟩

theorem meets_any (k1 k2 k3 k4 : Kv) (g1 c1 g2 c2 g3 c3 g4 c4 : Nat) (i1 i2 : Bool) (w : World) (l1 : k1.key.length ≤ 2147483647) (l2 : k2.key.length ≤ 2147483647) (l3 : k3.key.length ≤ 2147483647) (l4 : k4.key.length ≤ 2147483647)
    (h1 : KeyAt w k1 g1 c1) (h2 : KeyAt w k2 g2 c2) (h3 : KeyAt w k3 g3 c3) (h4 : KeyAt w k4 g4 c4) :
    Calls Try.prog 28 #[keyV g1 k1.key.length c1, keyV g2 k2.key.length c2, .bool i1, keyV g3 k3.key.length c3, keyV g4 k4.key.length c4, .bool i2] w
      fun e w' => e = .returned (.bool (meetB k1 k2 i1 k3 k4 i2)) ∧ Tch [] w w' := by
  have HC := Lib.hid (overlaps_any k1 k2 k3 k4 g1 c1 g2 c2 g3 c3 g4 c4 i1 i2 0 0 w l1 l2 l3 l4 h1 h2 h3 h4)
  clear h1 h2 h3 h4
  go_enter Try.func28, Try.ntmps28
  go_wp2_with (go_at_call 41; refine HC.out.mono ?_; rintro e w1 ⟨rfl, t1⟩; have HT := Lib.hid t1; clear t1)
  go_ret
  exact ⟨rfl, HT.out⟩

end Go.Proofs.Ytdofgamahjmohaa
