/- container/heap's up and down over the box. -/
import Derived.Test.YtaheafmdkbobcaaHpB
import Derived.BigGuardPart
namespace Go.Proofs.Ytaheafmdkbobcaa
open Go.RowKit

abbrev HI (ib : Nat) : Value := .iface 72 (.pointer (some ⟨ib, 0, none⟩))

theorem wrap_chk (t : TypeId) (a : Addr) (name : String) : Builtin.ssaWrapNilChk_ #[t] t #[.pointer (some a), strVal "", strVal name] = pure (.pointer (some a)) := rfl

theorem method_val {P : Program} {t e : TypeId} {f : FuncId} {b : Nat} {v : Value} {w : World} {name : String} (n : Nat)
    (hi : (P.info? t).map (fun i => (i.methods.find? (·.name == name)).map (fun m => (m.path, m.func))) = some (some (#[], some (f, false)))) (ht : P.underlying t = some (.pointer e))
    (hl : Sem.run P (loadVar e ⟨b, 0, none⟩) w = .ok v w) :
    Sem.run P (method (n + 1) t (.pointer (some ⟨b, 0, none⟩)) name) w = .ok (f, v) w := by
  cases h1 : P.info? t with
  | none => simp [h1] at hi
  | some i =>
    simp only [h1, Option.map_some, Option.some.injEq] at hi
    cases h2 : i.methods.find? (·.name == name) with
    | none => simp [h2] at hi
    | some m =>
      simp only [h2, Option.map_some, Option.some.injEq, Prod.mk.injEq] at hi
      obtain ⟨hp, hf⟩ := hi
      simp [method, typeInfo, h1, h2, hp, hf, follow, receiverAt, run_underlying ht, Place.get, wrap_chk, asAddr, hl, Result.andThen]

theorem mLess (ib : Nat) (v : Value) (w : World) (h : w.cell? ⟨ib, 0, none⟩ = some v) : Sem.run Try.prog (method 202 72 (.pointer (some ⟨ib, 0, none⟩)) "Less") w = .ok (60, v) w :=
  method_val 201 (by kernel_rfl) Try.underlying72 (by simp [go_sem, h])
theorem mSwap (ib : Nat) (v : Value) (w : World) (h : w.cell? ⟨ib, 0, none⟩ = some v) : Sem.run Try.prog (method 202 72 (.pointer (some ⟨ib, 0, none⟩)) "Swap") w = .ok (61, v) w :=
  method_val 201 (by kernel_rfl) Try.underlying72 (by simp [go_sem, h])
theorem mLen (ib : Nat) (v : Value) (w : World) (h : w.cell? ⟨ib, 0, none⟩ = some v) : Sem.run Try.prog (method 202 72 (.pointer (some ⟨ib, 0, none⟩)) "Len") w = .ok (59, v) w :=
  method_val 201 (by kernel_rfl) Try.underlying72 (by simp [go_sem, h])
theorem mPush (ib : Nat) (w : World) : Sem.run Try.prog (method 202 72 (.pointer (some ⟨ib, 0, none⟩)) "Push") w = .ok (63, .pointer (some ⟨ib, 0, none⟩)) w := by kernel_rfl
theorem mPop (ib : Nat) (w : World) : Sem.run Try.prog (method 202 72 (.pointer (some ⟨ib, 0, none⟩)) "Pop") w = .ok (62, .pointer (some ⟨ib, 0, none⟩)) w := by kernel_rfl

def swp (xs : List Int) (i j : Nat) : List Int := (xs.set i (xs.getD j 0)).set j (xs.getD i 0)
theorem swp_length (xs : List Int) (i j : Nat) : (swp xs i j).length = xs.length := by simp [swp]

def ltB (xs : List Int) (i j : Nat) : Bool := decide (xs.getD i 0 < xs.getD j 0)

theorem less_hp (ib g n cap : Nat) (xs : List Int) (i j : Int) (w : World) (h : HeapAt w ib (.slice (some ⟨g, 0, none⟩) n cap) xs) (hl : xs.length = n) (hi0 : 0 ≤ i) (hi : i < n) (hj0 : 0 ≤ j) (hj : j < n) (r : Bool) (hr : ltB xs i.toNat j.toNat = r) :
    Calls Try.prog 60 #[.slice (some ⟨g, 0, none⟩) n cap, .int .i64 i, .int .i64 j] w fun e w' => e = .returned (.bool r) ∧ ∃ k, w' = w.drewN k := by
  obtain ⟨i, rfl⟩ := Int.eq_ofNat_of_zero_le hi0
  obtain ⟨j, rfl⟩ := Int.eq_ofNat_of_zero_le hj0
  subst hl
  have := less_any 0 g xs.length cap xs i j w h.own (by omega) (by omega)
  subst hr
  exact this

theorem swap_hp (ib g n cap : Nat) (xs : List Int) (i j : Int) (w : World) (h : HeapAt w ib (.slice (some ⟨g, 0, none⟩) n cap) xs) (hl : xs.length = n) (hi0 : 0 ≤ i) (hi : i < n) (hj0 : 0 ≤ j) (hj : j < n) :
    Calls Try.prog 61 #[.slice (some ⟨g, 0, none⟩) n cap, .int .i64 i, .int .i64 j] w fun e w' => e = .returned (.tuple #[]) ∧ HeapAt w' ib (.slice (some ⟨g, 0, none⟩) n cap) (swp xs i.toNat j.toNat) ∧ Tch [g] w w' := by
  obtain ⟨i, rfl⟩ := Int.eq_ofNat_of_zero_le hi0
  obtain ⟨j, rfl⟩ := Int.eq_ofNat_of_zero_le hj0
  subst hl
  refine (swap_any 0 g xs.length cap xs i j w h.own (by omega) (by omega)).mono ?_
  rintro e w' ⟨he, ho, ht⟩
  refine ⟨he, ⟨ht.cells h.box ?_, ?_⟩, ht⟩
  · simp; exact fun e => h.ne g rfl e.symm
  · rw [swp_length]; exact ho

/-- heap.up. -/
def hup (xs : List Int) (j : Nat) : List Int :=
  if h : j = 0 then xs else if ltB xs j ((j - 1) / 2) = true then hup (swp xs ((j - 1) / 2) j) ((j - 1) / 2) else xs
termination_by j
decreasing_by omega

theorem hup_zero (xs : List Int) : hup xs 0 = xs := by rw [hup]; simp
theorem hup_stop (xs : List Int) (j : Nat) (h : ltB xs j ((j - 1) / 2) = false) : hup xs j = xs := by rw [hup]; simp [h]
theorem hup_go (xs : List Int) (j : Nat) (h0 : j ≠ 0) (h : ltB xs j ((j - 1) / 2) = true) : hup xs j = hup (swp xs ((j - 1) / 2) j) ((j - 1) / 2) := by rw [hup]; simp [h, h0]

theorem HeapAt.drewN {w : World} {ib : Nat} {v : Value} {xs : List Int} (h : HeapAt w ib v xs) (k : Nat) : HeapAt (w.drewN k) ib v xs := ⟨h.box, h.own⟩

set_option maxHeartbeats 400000 in
theorem up_any (ib g n cap : Nat) (xs : List Int) (j : Nat) (w : World) (h : HeapAt w ib (.slice (some ⟨g, 0, none⟩) n cap) xs) (hl : xs.length = n) (hj : j < n) (hmx : n ≤ 140737488351232) :
    Calls Try.prog 41 #[HI ib, .int .i64 j] w fun e w' => e = .returned (.tuple #[]) ∧ HeapAt w' ib (.slice (some ⟨g, 0, none⟩) n cap) (hup xs j) ∧ Tch [g] w w' := by
  go_enter Try.func41, Try.ntmps41
  go_wp2
  go_loopw [1] (fun v wr => ∃ (k : Nat) (ys : List Int), k ≤ j ∧ v = .int .i64 k ∧ ys.length = n ∧ HeapAt wr ib (.slice (some ⟨g, 0, none⟩) n cap) ys ∧ hup ys k = hup xs j ∧ Tch [g] w wr) (fun v _ => (intOf v).toNat)
  case atStart => exact ⟨j, xs, Nat.le_refl _, rfl, hl, h, rfl, Tch.refl _ _⟩
  case round =>
    obtain ⟨k, ys, hk, rfl, hl, hh, he, ht⟩ := hrel
    have c0 := cell_of_one hh.box
    have HE := Lib.hid he
    have HL := Lib.hid hl
    clear he hl
    by_cases h0 : k = 0
    · subst h0
      go_wp2
      go_end0
      exact ⟨rfl, by rw [← HE.out, hup_zero]; exact hh, ht⟩
    · have h1 : (1 : Int) ≤ k := by omega
      have hm := mLess ib _ wr c0
      have ei : ((((k : Int) - 1) / 2)).toNat = (k - 1) / 2 := by omega
      have EI := Lib.hid ei
      have hne : ((((k : Int) - 1) / 2) == (k : Int)) = false := beq_eq_false_iff_ne.2 (by omega)
      have hne2 : ¬ (((k : Int) - 1) / 2) = (k : Int) := by omega
      clear ei
      cases hb : ltB ys k ((k - 1) / 2) with
      | false =>
        have HB := Lib.hid hb
        clear hb
        go_wp2_with (go_at_call 60; refine (less_hp ib g n cap ys _ _ _ hh HL.out (by omega) (by omega) (by omega) (by omega) false (by rw [Int.toNat_natCast, EI.out]; exact HB.out)).mono ?_; rintro e w1 ⟨rfl, q, rfl⟩)
        go_end0
        exact ⟨rfl, by rw [← HE.out, hup_stop _ _ HB.out]; exact hh.drewN q, ht.drewN q⟩
      | true =>
        have HB := Lib.hid hb
        clear hb
        go_wp2_with (first | (go_at_call 60; refine (less_hp ib g n cap ys _ _ _ hh HL.out (by omega) (by omega) (by omega) (by omega) true (by rw [Int.toNat_natCast, EI.out]; exact HB.out)).mono ?_; rintro e w1 ⟨rfl, q, rfl⟩; have hm2 := mSwap ib _ (wr.drewN q) (cell_of_one (hh.drewN q).box)) | (go_at_call 61; refine (swap_hp ib g n cap ys _ _ _ (hh.drewN _) HL.out (by omega) (by omega) (by omega) (by omega)).mono ?_; rintro e w2 ⟨rfl, hh2, ht2⟩))
        have e1 : (((k : Int) - 1) / 2) = (((k - 1) / 2 : Nat) : Int) := by omega
        rw [EI.out] at hh2
        simp only [Int.toNat_natCast] at hh2
        go_roundw
        case rel => exact ⟨(k - 1) / 2, swp ys ((k - 1) / 2) k, by omega, congrArg (Value.int .i64) e1, by rw [swp_length]; exact HL.out, hh2, by rw [← HE.out, hup_go _ _ h0 HB.out], (ht.drewN _).trans ht2⟩
        case measure => simp [intOf]; omega
end Go.Proofs.Ytaheafmdkbobcaa
