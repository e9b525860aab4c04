/- spec.Holes: whether a text is fine, as a function. -/
import Derived.Test.YtcolffccbmpndaaGreatDoorTrHp
namespace Go.Proofs.YtcolffccbmpndaaGreatDoor
open Go.RowKit Go.Deep
set_option maxRecDepth 100000

def endG (r : List UInt8) : Option (List UInt8) := if r = [] ∨ r.head? = some 44 then some r else none
/-- What is left behind an item. -/
def itemG (r : List UInt8) : Option (List UInt8) :=
  if (placeF r).2.2 = true then
    if (placeF r).2.1.head? = some 45 then
      if (placeF (placeF r).2.1.tail).2.2 = true then
        if (placeF (placeF r).2.1.tail).1 < (placeF r).1 then none else endG (placeF (placeF r).2.1.tail).2.1
      else none
    else endG (placeF r).2.1
  else none
def fineG : Nat → List UInt8 → Bool
  | 0, _ => false
  | m + 1, r => match itemG r with
    | none => false
    | some [] => true
    | some (_ :: t) => fineG m t
/-- Whether a text names places. -/
def fineF (l : List UInt8) : Bool := if l = [] then true else if 1000 < l.length then false else fineG (l.length + 1) l
theorem fine_long {l : List UInt8} (h : 1000 < l.length) : fineF l = false := by
  unfold fineF
  rw [if_neg (by rintro rfl; simp at h), if_pos h]
theorem fine_short {l : List UInt8} (h0 : 0 < l.length) (h : l.length ≤ 1000) : fineF l = fineG (l.length + 1) l := by
  unfold fineF
  rw [if_neg (by rintro rfl; simp at h0), if_neg (by omega)]
theorem item_bad1 {r r1 : List UInt8} {n : Nat} (h : placeF r = (n, r1, false)) : itemG r = none := by simp [itemG, h]
theorem item_bad2 {r r1 r2 r3 : List UInt8} {n m : Nat} (h : placeF r = (n, r1, true)) (h1 : r1 = 45 :: r2) (h2 : placeF r2 = (m, r3, false)) : itemG r = none := by simp [itemG, h, h1, h2]
theorem item_bad3 {r r1 r2 r3 : List UInt8} {n m : Nat} (h : placeF r = (n, r1, true)) (h1 : r1 = 45 :: r2) (h2 : placeF r2 = (m, r3, true)) (h3 : m < n) : itemG r = none := by simp [itemG, h, h1, h2, h3]
theorem item_two {r r1 r2 r3 : List UInt8} {n m : Nat} (h : placeF r = (n, r1, true)) (h1 : r1 = 45 :: r2) (h2 : placeF r2 = (m, r3, true)) (h3 : n ≤ m) : itemG r = endG r3 := by
  simp only [itemG, h, h1, h2, List.head?_cons, List.tail_cons, if_true]
  rw [if_neg (by omega)]
theorem item_one {r r1 : List UInt8} {n : Nat} (h : placeF r = (n, r1, true)) (h1 : r1.head? ≠ some 45) : itemG r = endG r1 := by simp [itemG, h, h1]
theorem head_of {l : List UInt8} {q : Nat} (h : l.length ≤ q ∨ (q < l.length ∧ byI l q ≠ 45)) : (l.drop q).head? ≠ some 45 := by
  rcases h with h | ⟨h, h2⟩
  · rw [List.drop_eq_nil_of_le h]; simp
  · rw [drop_getD h, List.head?_cons]
    intro e
    apply h2
    unfold byI
    rw [Option.some.inj e]
    rfl
theorem end_other {l : List UInt8} {q : Nat} (h : q < l.length) (h2 : byI l q ≠ 44) : endG (l.drop q) = none := by
  unfold endG
  rw [drop_getD h, if_neg]
  rintro (e | e)
  · cases e
  · rw [List.head?_cons] at e
    apply h2
    unfold byI
    rw [Option.some.inj e]
    rfl
theorem fin_false {l : List UInt8} {k : Nat} (h : ∃ m, l.length - k < m ∧ fineF l = fineG m (l.drop k)) (hi : itemG (l.drop k) = none) : fineF l = false := by
  obtain ⟨m, hm, e⟩ := h
  obtain ⟨m, rfl⟩ : ∃ m', m = m' + 1 := ⟨m - 1, by omega⟩
  rw [e]
  simp [fineG, hi]
theorem fin_true {l : List UInt8} {k : Nat} (h : ∃ m, l.length - k < m ∧ fineF l = fineG m (l.drop k)) (hi : itemG (l.drop k) = some []) : fineF l = true := by
  obtain ⟨m, hm, e⟩ := h
  obtain ⟨m, rfl⟩ : ∃ m', m = m' + 1 := ⟨m - 1, by omega⟩
  rw [e]
  simp [fineG, hi]
theorem fin_more {l : List UInt8} {k q : Nat} (h : ∃ m, l.length - k < m ∧ fineF l = fineG m (l.drop k)) (hi : itemG (l.drop k) = endG (l.drop q)) (hq : l.drop q = 44 :: l.drop (q + 1)) (hl : q < l.length) (hk : k ≤ q) : ∃ m, l.length - (q + 1) < m ∧ fineF l = fineG m (l.drop (q + 1)) := by
  obtain ⟨m, hm, e⟩ := h
  obtain ⟨m, rfl⟩ : ∃ m', m = m' + 1 := ⟨m - 1, by omega⟩
  refine ⟨m, by omega, ?_⟩
  have hi2 : itemG (l.drop k) = some (44 :: l.drop (q + 1)) := by rw [hi, hq]; simp [endG]
  rw [e]
  simp [fineG, hi2]

/-- What Holes tells. -/
def HolesFn (l : List UInt8) (w : World) (e : Ending) (w' : World) : Prop :=
  ∃ a c n f fine, e = .returned (.tuple #[.slice a n c, .bool fine]) ∧ Own w w' 4 1 (.slice a n c) n (bl n f) ∧ n ≤ 10000 ∧ (∀ i, n ≤ i → f i = false) ∧
    (fine = true → (l = [] ∧ n = 0) ∨ (l.length ≤ 1000 ∧ ∃ L it, (∀ j ∈ L, j.good) ∧ it.good ∧ l = pre L ++ it.text ∧ (n, f) = (L ++ [it]).foldl stepI (0, fun _ => false))) ∧ fine = fineF l

set_option maxHeartbeats 8000000 in
theorem holes_fun (l : List UInt8) (w : World) (hl : l.length ≤ 2147483647) :
    Calls Tryz.prog 18 #[.string (bs l)] w (HolesFn l w) := by
  have hs := bs_size l
  have hl2 : (l.length : Int) ≤ 2147483647 := by omega
  have HN : Hid (Own w (w.alloc (.cells #[] 4)) 4 1 (.slice (some ⟨w.heap.size, 0, none⟩) 0 0) 0 (bl 0 (fun _ => false))) := Lib.hid (Own.new (Tch.refl _ w) 4 1)
  by_cases hl0 : l.length = 0
  · obtain rfl : l = [] := List.length_eq_zero_iff.1 hl0
    clear hl0 hl2
    go_enter Tryz.func18, Tryz.ntmps18
    go_wp2_with fail
    go_ret2
    exact ⟨_, _, 0, fun _ => false, true, rfl, HN.out, by omega, fun _ _ => rfl, fun _ => .inl ⟨rfl, rfl⟩, rfl⟩
  have hl3 : (0 : Int) < (l.length : Int) := by omega
  have hl4 : 0 < l.length := by omega
  by_cases hl1 : 1000 < l.length
  · have hl5 : (1000 : Int) < (l.length : Int) := by omega
    have HL9 := Lib.hid hl1
    have hl6 : ((l.length : Int) == 0) = false := beq_eq_false_iff_ne.2 (by omega)
    go_enter Tryz.func18, Tryz.ntmps18
    go_wp2_with fail
    go_ret2
    exact ⟨_, _, 0, fun _ => false, false, rfl, HN.out, by omega, fun _ _ => rfl, fun h => by simp at h, (fine_long HL9.out).symm⟩
  have hl5 : (l.length : Int) ≤ 1000 := by omega
  have HL1 := Lib.hid (show l.length ≤ 1000 by omega)
  have HFL := Lib.hid (fine_short hl4 HL1.out)
  have hg1 : ((l.length : Int) == 0) = false := beq_eq_false_iff_ne.2 (by omega)
  have hg2 : decide ((1000 : Int) < (l.length : Int)) = false := decide_eq_false (by omega)
  have hg3 : decide (1000 < l.length) = false := decide_eq_false (by omega)
  clear hl0 hl1 hl
  obtain ⟨i0, hinf, hz0, hz1, hz2⟩ := info_parts Tryz.infoBool
  have HAP := Lib.hid (fun (w0 wr : World) (v : Value) (n : Nat) (xs : List Value) (h : Own w0 wr 4 1 v n xs) (hn : n ≤ 100000000) => own_app (ty := 36) Tryz.underlying36 hinf hz0 hz1 hz2 rfl (by decide) (by decide) #[.bool false] h hn rfl (by simp [Value.oneCell']))
  have HPL := Lib.hid (fun (k : Nat) (w' : World) (hk : k ≤ l.length) => place_fun l k w' (by have := HL1.out; omega) hk)
  have hb := byI_get l
  clear hinf hz0 hz1 hz2
  go_enter Tryz.func18, Tryz.ntmps18
  go_wp2_with fail
  clear hg1 hg2 hg3
  go_loopg [4, 5] (l.length + 1) (fun nn s4 s5 wr => ∃ (L : List It) (k n : Nat) (f : Nat → Bool) (a : Option Addr) (c : Nat), k ≤ l.length ∧ nn = l.length + 1 - k ∧ s4 = .slice a n c ∧ s5 = .int .i64 k ∧ Hid (Own w wr 4 1 (.slice a n c) n (bl n f) ∧ (∀ i, n ≤ i → f i = false) ∧ n ≤ 10000 ∧ (∀ j ∈ L, j.good) ∧ l = pre L ++ l.drop k ∧ (n, f) = L.foldl stepI (0, fun _ => false) ∧ ∃ m, l.length - k < m ∧ fineF l = fineG m (l.drop k)))
  case atStart => exact ⟨[], 0, 0, fun _ => false, _, 0, Nat.zero_le _, rfl, rfl, rfl, HN.out, fun _ _ => rfl, by omega, by simp, rfl, rfl, l.length + 1, by omega, HFL.out⟩
  case round =>
    obtain ⟨L, k, n, f, a, c, hk, rfl, rfl, rfl, HR⟩ := hrel
    rename World => wr
    have HOW := Lib.hid HR.out.1
    have HTF := Lib.hid HR.out.2.1
    have HN4 := Lib.hid HR.out.2.2.1
    have HLG := Lib.hid HR.out.2.2.2.1
    have HPRE := Lib.hid HR.out.2.2.2.2.1
    have HFO := Lib.hid HR.out.2.2.2.2.2.1
    have HFI := Lib.hid HR.out.2.2.2.2.2.2
    have HK := Lib.hid hk
    clear HR hk
    have hn4 : n ≤ 10000 := HN4.out
    go_wp2_with fail
    refine (HPL.out k _ HK.out).mono ?_
    rintro e w1 ⟨n1, q1, ok1, rfl, t, hq1, hn1, hpf⟩
    have HPF1 := Lib.hid hpf
    have hok := fun (h : ok1 = true) => placeF_ok (r := l.drop k) (r3 := l.drop q1) (n := n1) (by rw [← h]; exact hpf)
    clear hpf
    have HT1 := Lib.hid t
    have HOK := Lib.hid hok
    have HQ1 := Lib.hid hq1
    have hn1i : (n1 : Int) ≤ 99999 := by omega
    have hq1i : (q1 : Int) ≤ 1000 := by omega
    clear t hok hn1
    cases ok1 with
    | false =>
      clear HOK hq1
      go_wp2_with fail
      go_ret2
      exact ⟨a, c, n, f, false, rfl, HOW.out.tch HT1.out, HN4.out, HTF.out, fun h => by simp at h, (fin_false HFI.out (item_bad1 HPF1.out)).symm⟩
    | true =>
      obtain ⟨ba, ds, bb, hd1, hd2, hd3⟩ := HOK.out rfl
      have HD1 := Lib.hid hd1
      have HD2 := Lib.hid hd2
      have HD3 := Lib.hid hd3
      have HO1 := Lib.hid (HOW.out.tch HT1.out)
      clear HOK hd1 hd2 hd3
      by_cases hdash : q1 < l.length ∧ byI l q1 = 45
      · have hlt := hdash.1
        have hlt2 : (q1 : Int) < (l.length : Int) := by omega
        have hbb := hdash.2
        have HQL := Lib.hid (show q1 + 1 ≤ l.length by omega)
        have HD4 : Hid (l.drop q1 = 45 :: l.drop (q1 + 1)) := Lib.hid (by
          rw [drop_getD hdash.1]
          congr 1
          have := hdash.2
          unfold byI at this
          exact UInt8.toNat_inj.1 (by rw [show (45 : UInt8).toNat = 45 from rfl]; omega))
        clear hdash hq1
        go_wp2_with fail
        clear hbb hlt hlt2
        refine (HPL.out (q1 + 1) _ HQL.out).mono ?_
        rintro e w2 ⟨n2, q2, ok2, rfl, t, hq2, hn2, hpf⟩
        have HPF2 := Lib.hid hpf
        have hok := fun (h : ok2 = true) => placeF_ok (r := l.drop (q1 + 1)) (r3 := l.drop q2) (n := n2) (by rw [← h]; exact hpf)
        clear hpf
        have HT2 := Lib.hid t
        have HOK := Lib.hid hok
        have HQ2 := Lib.hid hq2
        have hn2i : (n2 : Int) ≤ 99999 := by omega
        have hq2i : (q2 : Int) ≤ 1000 := by omega
        clear t hok hn2
        cases ok2 with
        | false =>
          clear HOK hq2
          go_wp2_with fail
          go_ret2
          exact ⟨a, c, n, f, false, rfl, HO1.out.tch HT2.out, HN4.out, HTF.out, fun h => by simp at h, (fin_false HFI.out (item_bad2 HPF1.out HD4.out HPF2.out)).symm⟩
        | true =>
          obtain ⟨bc, es, bd, hd1, hd2, hd3⟩ := HOK.out rfl
          have HO2 := Lib.hid (HO1.out.tch HT2.out)
          have HIT : Hid (∃ it : It, it.ok ∧ it.s = n1 ∧ it.to = n2 ∧ l.drop k = it.text ++ l.drop q2) := Lib.hid (by
            obtain ⟨it, g1, g2, g3, g4⟩ := text_two (a := ba) (b := bb) (c := bc) (d := bd) HD2.out hd2
            exact ⟨it, g1, by rw [g2, HD3.out], by rw [g3, hd3], by rw [HD1.out, HD4.out, hd1, g4]; simp⟩)
          clear HOK hd1 hd2 hd3
          by_cases hle : n2 < n1
          · have hle2 : (n2 : Int) < (n1 : Int) := by omega
            have HB3 := Lib.hid (item_bad3 HPF1.out HD4.out HPF2.out hle)
            clear hq2
            go_wp2_with fail
            go_ret2
            exact ⟨a, c, n, f, false, rfl, HO2.out, HN4.out, HTF.out, fun h => by simp at h, (fin_false HFI.out HB3.out).symm⟩
          · have hle2 : (n1 : Int) ≤ (n2 : Int) := by omega
            have HLE := Lib.hid (show n1 ≤ n2 by omega)
            have HIG := Lib.hid (item_two HPF1.out HD4.out HPF2.out HLE.out)
            have hld : decide (n2 < n1) = false := decide_eq_false (by omega)
            have hld2 : decide ((n2 : Int) < (n1 : Int)) = false := decide_eq_false (by omega)
            clear hle
            have HMEAS : Hid (k ≤ q2) := Lib.hid (by
              obtain ⟨it, -, -, -, g4⟩ := HIT.out
              have := congrArg List.length g4
              rw [List.length_append, List.length_drop, List.length_drop] at this
              have := HK.out
              have := HQ2.out
              omega)
            by_cases hend : q2 = l.length
            · subst hend
              have hde : decide (l.length < l.length) = false := decide_eq_false (by omega)
              go_wp2_with fail
              clear hde hq2 hld hld2 hle2
              have HT9 : Hid (n2 ≤ 9999) := Lib.hid (by
                obtain ⟨it, g1, -, g3, -⟩ := HIT.out
                rw [← g3]
                unfold It.to
                cases he : it.e? with
                | none => exact s_le g1
                | some x => exact e_le g1 x he)
              go_loopg [4] (n2 + 1 - n) (fun nn s4 wz => ∃ (n' : Nat) (a' : Option Addr) (c' : Nat), n ≤ n' ∧ n' ≤ max n (n2 + 1) ∧ nn = n2 + 1 - n' ∧ s4 = .slice a' n' c' ∧ Hid (Own w wz 4 1 (.slice a' n' c') n' (bl n' f)))
              case atStart => exact ⟨n, _, _, Nat.le_refl _, Nat.le_max_left _ _, rfl, rfl, HO2.out⟩
              case round =>
                obtain ⟨n', a', c', hm1, hm2, rfl, rfl, HZ⟩ := hrel
                rename World => wz
                have hn5 : n' ≤ 10001 := by have := HN4.out; have := HT9.out; omega
                have hn6 : (n' : Int) ≤ 10001 := by omega
                by_cases hge : n' ≤ n2
                · have hge2 : (n' : Int) ≤ (n2 : Int) := by omega
                  have HGE := Lib.hid (⟨hge, hm1⟩ : _ ∧ _)
                  have HA1 := Lib.hid (HAP.out _ _ _ _ _ HZ.out (by omega))
                  have hfn : f n' = false := HTF.out n' (by omega)
                  have HFN := Lib.hid hfn
                  clear hge hfn hm1 hm2 HZ hn5
                  go_wp2_with (at_builtin; refine wpList_append_run rfl (.tmp 77) (.tmp 78) 36 rfl (.slice a' n' c') (.slice (some ⟨wz.heap.size, 0, none⟩) 1 1) (by simp [Act.eval]) (by simp [Act.eval]) _ HA1.out ?_; rintro vv w7 ⟨g7, c7, rfl, n1, n2, n3, n4, n5⟩; have HN1 := Lib.hid n1; clear n1 n2 n3 n4 n5)
                  go_roundg (n2 + 1 - (n' + 1))
                  case rel =>
                    obtain ⟨h1, h2⟩ := HGE.out
                    exact ⟨n' + 1, _, _, by omega, by omega, rfl, rfl, by rw [bl_succ, HFN.out]; exact HN1.out⟩
                  case measure => obtain ⟨h1, h2⟩ := HGE.out; omega
                · have hge2 : (n2 : Int) < (n' : Int) := by omega
                  have HNE := Lib.hid (show n' = max n (n2 + 1) by omega)
                  have hn0 : 0 < n' := by omega
                  obtain ⟨g, rfl, hg, -, -⟩ := HZ.out.rowCell hn0
                  have HOZ := Lib.hid HZ.out
                  have HG := Lib.hid hg
                  have hde : decide (n' ≤ n2) = false := decide_eq_false (by omega)
                  have hde2 : decide ((n' : Int) ≤ (n2 : Int)) = false := decide_eq_false (by omega)
                  clear hge hm1 hm2 hn5 HZ hg hn0
                  go_wp2_with fail
                  clear hde hde2
                  go_loopg [10] (n2 + 1 - n1) (fun nn s10 wy => ∃ i : Nat, n1 ≤ i ∧ i ≤ max n1 (n2 + 1) ∧ nn = n2 + 1 - i ∧ s10 = .int .i64 i ∧ Hid (Own w wy 4 1 (.slice (some ⟨g, 0, none⟩) n' c') n' (bl n' (fun j => f j || (decide (n1 ≤ j) && decide (j < i))))))
                  case atStart =>
                    refine ⟨n1, Nat.le_refl _, Nat.le_max_left _ _, rfl, rfl, ?_⟩
                    rw [bl_congr (g := f) (fun i _ => by
                      have : (decide (n1 ≤ i) && decide (i < n1)) = false := by simp <;> omega
                      rw [this, Bool.or_false])]
                    exact HOZ.out
                  case round =>
                    obtain ⟨i, hi1, hi2, rfl, rfl, HY⟩ := hrel
                    rename World => wy
                    by_cases hie : i ≤ n2
                    · have hie2 : (i : Int) ≤ (n2 : Int) := by omega
                      have hin : (i : Int) < (n' : Int) := by have := HNE.out; omega
                      obtain ⟨g', e', -, hcg, hfz⟩ := HY.out.rowCell (by have := HNE.out; omega)
                      simp only [Option.some.injEq, Addr.mk.injEq, and_true] at e'
                      subst e'
                      have x := hcg i (.bool (f i || (decide (n1 ≤ i) && decide (i < i)))) (by unfold bl; simp [show i < n' by have := HNE.out; omega])
                      have fx := hfz i
                      have HI := Lib.hid (⟨hi1, hi2, hie⟩ : _ ∧ _ ∧ _)
                      have HSTO := Lib.hid (HY.out.stored HG.out i (.bool true))
                      generalize (f i || (decide (n1 ≤ i) && decide (i < i))) = bv at x
                      clear hi1 hi2 hie hcg hfz HY
                      go_wp2_with fail
                      go_roundg (n2 + 1 - (i + 1))
                      case rel =>
                        obtain ⟨h1, h2, h3⟩ := HI.out
                        refine ⟨i + 1, by omega, by omega, rfl, by go_num, ?_⟩
                        have h4 := HSTO.out
                        rw [bl_set] at h4
                        rw [bl_congr (g := fun j => (f j || (decide (n1 ≤ j) && decide (j < i))) || decide (j = i)) (fun j _ => by
                          rw [Bool.or_assoc]; congr 1; rw [Bool.eq_iff_iff]; simp; omega)]
                        exact h4
                      case measure => obtain ⟨h1, h2, h3⟩ := HI.out; omega
                    · have hie2 : (n2 : Int) < (i : Int) := by omega
                      have HI := Lib.hid (⟨hi1, hi2, hie⟩ : _ ∧ _ ∧ _)
                      have HROW : Hid (Own w wy 4 1 (.slice (some ⟨g, 0, none⟩) n' c') n' (bl n' (fun j => f j || (decide (n1 ≤ j) && decide (j ≤ n2)))) ∧ (∀ j, n' ≤ j → (f j || (decide (n1 ≤ j) && decide (j ≤ n2))) = false) ∧ n' ≤ 10000 ∧ ∀ it : It, it.s = n1 → it.to = n2 → (n', fun j => f j || (decide (n1 ≤ j) && decide (j ≤ n2))) = (L ++ [it]).foldl stepI (0, fun _ => false)) := Lib.hid (by
                        have q1 := HNE.out
                        refine ⟨?_, fun j hj => ?_, by have := HN4.out; have := HT9.out; omega, fun it e1 e2 => ?_⟩
                        · rw [bl_congr (g := fun j => f j || (decide (n1 ≤ j) && decide (j < i))) (fun j _ => by
                            congr 1; rw [Bool.eq_iff_iff]; simp; omega)]
                          exact HY.out
                        · rw [HTF.out j (by omega)]
                          simp
                          omega
                        · rw [List.foldl_append, ← HFO.out]
                          show _ = stepI (n, f) it
                          unfold stepI
                          rw [e1, e2, q1])
                      clear hi1 hi2 hie HY
                      go_wp2_with fail
                      go_ret2
                      obtain ⟨it, g1, g2, g3, g4⟩ := HIT.out
                      obtain ⟨r1, r2, r3, r4⟩ := HROW.out
                      refine ⟨_, _, n', _, true, rfl, r1, r3, r2, fun _ => .inr ⟨HL1.out, L, it, HLG.out, ⟨g1, by rw [g2, g3]; exact HLE.out⟩, ?_, r4 it g2 g3⟩, (fin_true HFI.out (by rw [HIG.out, List.drop_length]; rfl)).symm⟩
                      rw [List.drop_length, List.append_nil] at g4
                      rw [← g4]
                      exact HPRE.out
            · have hlt : q2 < l.length := by omega
              have hlt2 : (q2 : Int) < (l.length : Int) := by omega
              by_cases hby : byI l q2 = 44
              · have hne3 : ((q2 : Int) == (l.length : Int)) = false := beq_eq_false_iff_ne.2 (by omega)
                have hne4 : decide ((q2 : Int) = (l.length : Int)) = false := decide_eq_false (by omega)
                have HLTQ := Lib.hid hlt
                have HD5 : Hid (l.drop q2 = 44 :: l.drop (q2 + 1)) := Lib.hid (by
                  rw [drop_getD hlt]
                  congr 1
                  have := hby
                  unfold byI at this
                  exact UInt8.toNat_inj.1 (by rw [show (44 : UInt8).toNat = 44 from rfl]; omega))
                go_wp2_with fail
                clear hby hne3 hne4 hq2 hld hld2 hle2
                have HT9 : Hid (n2 ≤ 9999) := Lib.hid (by
                  obtain ⟨it, g1, -, g3, -⟩ := HIT.out
                  rw [← g3]
                  unfold It.to
                  cases he : it.e? with
                  | none => exact s_le g1
                  | some x => exact e_le g1 x he)
                go_loopg [4] (n2 + 1 - n) (fun nn s4 wz => ∃ (n' : Nat) (a' : Option Addr) (c' : Nat), n ≤ n' ∧ n' ≤ max n (n2 + 1) ∧ nn = n2 + 1 - n' ∧ s4 = .slice a' n' c' ∧ Hid (Own w wz 4 1 (.slice a' n' c') n' (bl n' f)))
                case atStart => exact ⟨n, _, _, Nat.le_refl _, Nat.le_max_left _ _, rfl, rfl, HO2.out⟩
                case round =>
                  obtain ⟨n', a', c', hm1, hm2, rfl, rfl, HZ⟩ := hrel
                  rename World => wz
                  have hn5 : n' ≤ 10001 := by have := HN4.out; have := HT9.out; omega
                  have hn6 : (n' : Int) ≤ 10001 := by omega
                  by_cases hge : n' ≤ n2
                  · have hge2 : (n' : Int) ≤ (n2 : Int) := by omega
                    have HGE := Lib.hid (⟨hge, hm1⟩ : _ ∧ _)
                    have HA1 := Lib.hid (HAP.out _ _ _ _ _ HZ.out (by omega))
                    have hfn : f n' = false := HTF.out n' (by omega)
                    have HFN := Lib.hid hfn
                    clear hge hfn hm1 hm2 HZ hn5
                    go_wp2_with (at_builtin; refine wpList_append_run rfl (.tmp 77) (.tmp 78) 36 rfl (.slice a' n' c') (.slice (some ⟨wz.heap.size, 0, none⟩) 1 1) (by simp [Act.eval]) (by simp [Act.eval]) _ HA1.out ?_; rintro vv w7 ⟨g7, c7, rfl, n1, n2, n3, n4, n5⟩; have HN1 := Lib.hid n1; clear n1 n2 n3 n4 n5)
                    go_roundg (n2 + 1 - (n' + 1))
                    case rel =>
                      obtain ⟨h1, h2⟩ := HGE.out
                      exact ⟨n' + 1, _, _, by omega, by omega, rfl, rfl, by rw [bl_succ, HFN.out]; exact HN1.out⟩
                    case measure => obtain ⟨h1, h2⟩ := HGE.out; omega
                  · have hge2 : (n2 : Int) < (n' : Int) := by omega
                    have HNE := Lib.hid (show n' = max n (n2 + 1) by omega)
                    have hn0 : 0 < n' := by omega
                    obtain ⟨g, rfl, hg, -, -⟩ := HZ.out.rowCell hn0
                    have HOZ := Lib.hid HZ.out
                    have HG := Lib.hid hg
                    have hde : decide (n' ≤ n2) = false := decide_eq_false (by omega)
                    have hde2 : decide ((n' : Int) ≤ (n2 : Int)) = false := decide_eq_false (by omega)
                    clear hge hm1 hm2 hn5 HZ hg hn0
                    go_wp2_with fail
                    clear hde hde2
                    go_loopg [10] (n2 + 1 - n1) (fun nn s10 wy => ∃ i : Nat, n1 ≤ i ∧ i ≤ max n1 (n2 + 1) ∧ nn = n2 + 1 - i ∧ s10 = .int .i64 i ∧ Hid (Own w wy 4 1 (.slice (some ⟨g, 0, none⟩) n' c') n' (bl n' (fun j => f j || (decide (n1 ≤ j) && decide (j < i))))))
                    case atStart =>
                      refine ⟨n1, Nat.le_refl _, Nat.le_max_left _ _, rfl, rfl, ?_⟩
                      rw [bl_congr (g := f) (fun i _ => by
                        have : (decide (n1 ≤ i) && decide (i < n1)) = false := by simp <;> omega
                        rw [this, Bool.or_false])]
                      exact HOZ.out
                    case round =>
                      obtain ⟨i, hi1, hi2, rfl, rfl, HY⟩ := hrel
                      rename World => wy
                      by_cases hie : i ≤ n2
                      · have hie2 : (i : Int) ≤ (n2 : Int) := by omega
                        have hin : (i : Int) < (n' : Int) := by have := HNE.out; omega
                        obtain ⟨g', e', -, hcg, hfz⟩ := HY.out.rowCell (by have := HNE.out; omega)
                        simp only [Option.some.injEq, Addr.mk.injEq, and_true] at e'
                        subst e'
                        have x := hcg i (.bool (f i || (decide (n1 ≤ i) && decide (i < i)))) (by unfold bl; simp [show i < n' by have := HNE.out; omega])
                        have fx := hfz i
                        have HI := Lib.hid (⟨hi1, hi2, hie⟩ : _ ∧ _ ∧ _)
                        have HSTO := Lib.hid (HY.out.stored HG.out i (.bool true))
                        generalize (f i || (decide (n1 ≤ i) && decide (i < i))) = bv at x
                        clear hi1 hi2 hie hcg hfz HY
                        go_wp2_with fail
                        go_roundg (n2 + 1 - (i + 1))
                        case rel =>
                          obtain ⟨h1, h2, h3⟩ := HI.out
                          refine ⟨i + 1, by omega, by omega, rfl, by go_num, ?_⟩
                          have h4 := HSTO.out
                          rw [bl_set] at h4
                          rw [bl_congr (g := fun j => (f j || (decide (n1 ≤ j) && decide (j < i))) || decide (j = i)) (fun j _ => by
                            rw [Bool.or_assoc]; congr 1; rw [Bool.eq_iff_iff]; simp; omega)]
                          exact h4
                        case measure => obtain ⟨h1, h2, h3⟩ := HI.out; omega
                      · have hie2 : (n2 : Int) < (i : Int) := by omega
                        have HI := Lib.hid (⟨hi1, hi2, hie⟩ : _ ∧ _ ∧ _)
                        have HROW : Hid (Own w wy 4 1 (.slice (some ⟨g, 0, none⟩) n' c') n' (bl n' (fun j => f j || (decide (n1 ≤ j) && decide (j ≤ n2)))) ∧ (∀ j, n' ≤ j → (f j || (decide (n1 ≤ j) && decide (j ≤ n2))) = false) ∧ n' ≤ 10000 ∧ ∀ it : It, it.s = n1 → it.to = n2 → (n', fun j => f j || (decide (n1 ≤ j) && decide (j ≤ n2))) = (L ++ [it]).foldl stepI (0, fun _ => false)) := Lib.hid (by
                          have q1 := HNE.out
                          refine ⟨?_, fun j hj => ?_, by have := HN4.out; have := HT9.out; omega, fun it e1 e2 => ?_⟩
                          · rw [bl_congr (g := fun j => f j || (decide (n1 ≤ j) && decide (j < i))) (fun j _ => by
                              congr 1; rw [Bool.eq_iff_iff]; simp; omega)]
                            exact HY.out
                          · rw [HTF.out j (by omega)]
                            simp
                            omega
                          · rw [List.foldl_append, ← HFO.out]
                            show _ = stepI (n, f) it
                            unfold stepI
                            rw [e1, e2, q1])
                        clear hi1 hi2 hie HY
                        go_wp2_with fail
                        go_roundg (l.length + 1 - (q2 + 1))
                        case rel =>
                          obtain ⟨it, g1, g2, g3, g4⟩ := HIT.out
                          obtain ⟨r1, r2, r3, r4⟩ := HROW.out
                          refine ⟨L ++ [it], q2 + 1, n', _, _, _, HLTQ.out, rfl, rfl, by go_num, r1, r2, r3, fun j hj => ?_, ?_, r4 it g2 g3, fin_more HFI.out HIG.out HD5.out HLTQ.out HMEAS.out⟩
                          · rcases List.mem_append.1 hj with hj | hj
                            · exact HLG.out j hj
                            · rw [List.mem_singleton.1 hj]; exact ⟨g1, by rw [g2, g3]; exact HLE.out⟩
                          · rw [pre_snoc]
                            conv => lhs; rw [HPRE.out, g4, HD5.out]
                            simp
                        case measure => have := HLTQ.out; have := HMEAS.out; omega
              · have HB4 := Lib.hid (end_other hlt hby)
                have hb1 : (byI l q2 != 44) = true := bne_iff_ne.2 hby
                have hb2 : (byI l q2 == 44) = false := beq_eq_false_iff_ne.2 hby
                have hb3 : decide (byI l q2 = 44) = false := decide_eq_false hby
                go_wp2_with fail
                go_ret2
                exact ⟨a, c, n, f, false, rfl, HO2.out, HN4.out, HTF.out, fun h => by simp at h, (fin_false HFI.out (by rw [HIG.out]; exact HB4.out)).symm⟩
      · have hor : l.length ≤ q1 ∨ (q1 < l.length ∧ byI l q1 ≠ 45) := by
          rcases Nat.lt_or_ge q1 l.length with h | h
          · exact .inr ⟨h, fun e => hdash ⟨h, e⟩⟩
          · exact .inl h
        have HLE : Hid (n1 ≤ n1) := Lib.hid (Nat.le_refl _)
        have HIG := Lib.hid (item_one HPF1.out (head_of hor))
        have HIT : Hid (∃ it : It, it.ok ∧ it.s = n1 ∧ it.to = n1 ∧ l.drop k = it.text ++ l.drop q1) := Lib.hid (by
          obtain ⟨it, g1, g2, g3, g4⟩ := text_one (a := ba) (b := bb) HD2.out
          exact ⟨it, g1, by rw [g2, HD3.out], by rw [g3, HD3.out], by rw [HD1.out, g4]; simp⟩)
        have HMEAS : Hid (k ≤ q1) := Lib.hid (by
          obtain ⟨it, -, -, -, g4⟩ := HIT.out
          have := congrArg List.length g4
          rw [List.length_append, List.length_drop, List.length_drop] at this
          have := HK.out
          have := HQ1.out
          omega)
        have hld : decide (n1 < n1) = false := decide_eq_false (by omega)
        clear hdash
        rcases hor with hge | ⟨hlt, hby⟩
        · have hde : decide (q1 < l.length) = false := decide_eq_false (by omega)
          have hde2 : decide ((q1 : Int) < (l.length : Int)) = false := decide_eq_false (by omega)
          obtain rfl : q1 = l.length := by omega
          go_wp2_with fail
          clear hde hde2 hge hq1 hld
          have HT9 : Hid (n1 ≤ 9999) := Lib.hid (by
            obtain ⟨it, g1, -, g3, -⟩ := HIT.out
            rw [← g3]
            unfold It.to
            cases he : it.e? with
            | none => exact s_le g1
            | some x => exact e_le g1 x he)
          go_loopg [4] (n1 + 1 - n) (fun nn s4 wz => ∃ (n' : Nat) (a' : Option Addr) (c' : Nat), n ≤ n' ∧ n' ≤ max n (n1 + 1) ∧ nn = n1 + 1 - n' ∧ s4 = .slice a' n' c' ∧ Hid (Own w wz 4 1 (.slice a' n' c') n' (bl n' f)))
          case atStart => exact ⟨n, _, _, Nat.le_refl _, Nat.le_max_left _ _, rfl, rfl, HO1.out⟩
          case round =>
            obtain ⟨n', a', c', hm1, hm2, rfl, rfl, HZ⟩ := hrel
            rename World => wz
            have hn5 : n' ≤ 10001 := by have := HN4.out; have := HT9.out; omega
            have hn6 : (n' : Int) ≤ 10001 := by omega
            by_cases hge : n' ≤ n1
            · have hge2 : (n' : Int) ≤ (n1 : Int) := by omega
              have HGE := Lib.hid (⟨hge, hm1⟩ : _ ∧ _)
              have HA1 := Lib.hid (HAP.out _ _ _ _ _ HZ.out (by omega))
              have hfn : f n' = false := HTF.out n' (by omega)
              have HFN := Lib.hid hfn
              clear hge hfn hm1 hm2 HZ hn5
              go_wp2_with (at_builtin; refine wpList_append_run rfl (.tmp 77) (.tmp 78) 36 rfl (.slice a' n' c') (.slice (some ⟨wz.heap.size, 0, none⟩) 1 1) (by simp [Act.eval]) (by simp [Act.eval]) _ HA1.out ?_; rintro vv w7 ⟨g7, c7, rfl, n1, n2, n3, n4, n5⟩; have HN1 := Lib.hid n1; clear n1 n2 n3 n4 n5)
              go_roundg (n1 + 1 - (n' + 1))
              case rel =>
                obtain ⟨h1, h2⟩ := HGE.out
                exact ⟨n' + 1, _, _, by omega, by omega, rfl, rfl, by rw [bl_succ, HFN.out]; exact HN1.out⟩
              case measure => obtain ⟨h1, h2⟩ := HGE.out; omega
            · have hge2 : (n1 : Int) < (n' : Int) := by omega
              have HNE := Lib.hid (show n' = max n (n1 + 1) by omega)
              have hn0 : 0 < n' := by omega
              obtain ⟨g, rfl, hg, -, -⟩ := HZ.out.rowCell hn0
              have HOZ := Lib.hid HZ.out
              have HG := Lib.hid hg
              have hde : decide (n' ≤ n1) = false := decide_eq_false (by omega)
              have hde2 : decide ((n' : Int) ≤ (n1 : Int)) = false := decide_eq_false (by omega)
              clear hge hm1 hm2 hn5 HZ hg hn0
              go_wp2_with fail
              clear hde hde2
              go_loopg [10] (n1 + 1 - n1) (fun nn s10 wy => ∃ i : Nat, n1 ≤ i ∧ i ≤ max n1 (n1 + 1) ∧ nn = n1 + 1 - i ∧ s10 = .int .i64 i ∧ Hid (Own w wy 4 1 (.slice (some ⟨g, 0, none⟩) n' c') n' (bl n' (fun j => f j || (decide (n1 ≤ j) && decide (j < i))))))
              case atStart =>
                refine ⟨n1, Nat.le_refl _, Nat.le_max_left _ _, rfl, rfl, ?_⟩
                rw [bl_congr (g := f) (fun i _ => by
                  have : (decide (n1 ≤ i) && decide (i < n1)) = false := by simp <;> omega
                  rw [this, Bool.or_false])]
                exact HOZ.out
              case round =>
                obtain ⟨i, hi1, hi2, rfl, rfl, HY⟩ := hrel
                rename World => wy
                by_cases hie : i ≤ n1
                · have hie2 : (i : Int) ≤ (n1 : Int) := by omega
                  have hin : (i : Int) < (n' : Int) := by have := HNE.out; omega
                  obtain ⟨g', e', -, hcg, hfz⟩ := HY.out.rowCell (by have := HNE.out; omega)
                  simp only [Option.some.injEq, Addr.mk.injEq, and_true] at e'
                  subst e'
                  have x := hcg i (.bool (f i || (decide (n1 ≤ i) && decide (i < i)))) (by unfold bl; simp [show i < n' by have := HNE.out; omega])
                  have fx := hfz i
                  have HI := Lib.hid (⟨hi1, hi2, hie⟩ : _ ∧ _ ∧ _)
                  have HSTO := Lib.hid (HY.out.stored HG.out i (.bool true))
                  generalize (f i || (decide (n1 ≤ i) && decide (i < i))) = bv at x
                  clear hi1 hi2 hie hcg hfz HY
                  go_wp2_with fail
                  go_roundg (n1 + 1 - (i + 1))
                  case rel =>
                    obtain ⟨h1, h2, h3⟩ := HI.out
                    refine ⟨i + 1, by omega, by omega, rfl, by go_num, ?_⟩
                    have h4 := HSTO.out
                    rw [bl_set] at h4
                    rw [bl_congr (g := fun j => (f j || (decide (n1 ≤ j) && decide (j < i))) || decide (j = i)) (fun j _ => by
                      rw [Bool.or_assoc]; congr 1; rw [Bool.eq_iff_iff]; simp; omega)]
                    exact h4
                  case measure => obtain ⟨h1, h2, h3⟩ := HI.out; omega
                · have hie2 : (n1 : Int) < (i : Int) := by omega
                  have HI := Lib.hid (⟨hi1, hi2, hie⟩ : _ ∧ _ ∧ _)
                  have HROW : Hid (Own w wy 4 1 (.slice (some ⟨g, 0, none⟩) n' c') n' (bl n' (fun j => f j || (decide (n1 ≤ j) && decide (j ≤ n1)))) ∧ (∀ j, n' ≤ j → (f j || (decide (n1 ≤ j) && decide (j ≤ n1))) = false) ∧ n' ≤ 10000 ∧ ∀ it : It, it.s = n1 → it.to = n1 → (n', fun j => f j || (decide (n1 ≤ j) && decide (j ≤ n1))) = (L ++ [it]).foldl stepI (0, fun _ => false)) := Lib.hid (by
                    have q1 := HNE.out
                    refine ⟨?_, fun j hj => ?_, by have := HN4.out; have := HT9.out; omega, fun it e1 e2 => ?_⟩
                    · rw [bl_congr (g := fun j => f j || (decide (n1 ≤ j) && decide (j < i))) (fun j _ => by
                        congr 1; rw [Bool.eq_iff_iff]; simp; omega)]
                      exact HY.out
                    · rw [HTF.out j (by omega)]
                      simp
                      omega
                    · rw [List.foldl_append, ← HFO.out]
                      show _ = stepI (n, f) it
                      unfold stepI
                      rw [e1, e2, q1])
                  clear hi1 hi2 hie HY
                  go_wp2_with fail
                  go_ret2
                  obtain ⟨it, g1, g2, g3, g4⟩ := HIT.out
                  obtain ⟨r1, r2, r3, r4⟩ := HROW.out
                  refine ⟨_, _, n', _, true, rfl, r1, r3, r2, fun _ => .inr ⟨HL1.out, L, it, HLG.out, ⟨g1, by rw [g2, g3]; exact HLE.out⟩, ?_, r4 it g2 g3⟩, (fin_true HFI.out (by rw [HIG.out, List.drop_length]; rfl)).symm⟩
                  rw [List.drop_length, List.append_nil] at g4
                  rw [← g4]
                  exact HPRE.out
        · have hlt2 : (q1 : Int) < (l.length : Int) := by omega
          have hb1 : (byI l q1 == 45) = false := beq_eq_false_iff_ne.2 hby
          have hb2 : decide (byI l q1 = 45) = false := decide_eq_false hby
          by_cases hby2 : byI l q1 = 44
          · have hne3 : ((q1 : Int) == (l.length : Int)) = false := beq_eq_false_iff_ne.2 (by omega)
            have hne4 : decide ((q1 : Int) = (l.length : Int)) = false := decide_eq_false (by omega)
            have HLTQ := Lib.hid hlt
            have HD5 : Hid (l.drop q1 = 44 :: l.drop (q1 + 1)) := Lib.hid (by
              rw [drop_getD hlt]
              congr 1
              have := hby2
              unfold byI at this
              exact UInt8.toNat_inj.1 (by rw [show (44 : UInt8).toNat = 44 from rfl]; omega))
            clear hby hb1 hb2
            go_wp2_with fail
            clear hby2 hne3 hne4 hq1 hld
            have HT9 : Hid (n1 ≤ 9999) := Lib.hid (by
              obtain ⟨it, g1, -, g3, -⟩ := HIT.out
              rw [← g3]
              unfold It.to
              cases he : it.e? with
              | none => exact s_le g1
              | some x => exact e_le g1 x he)
            go_loopg [4] (n1 + 1 - n) (fun nn s4 wz => ∃ (n' : Nat) (a' : Option Addr) (c' : Nat), n ≤ n' ∧ n' ≤ max n (n1 + 1) ∧ nn = n1 + 1 - n' ∧ s4 = .slice a' n' c' ∧ Hid (Own w wz 4 1 (.slice a' n' c') n' (bl n' f)))
            case atStart => exact ⟨n, _, _, Nat.le_refl _, Nat.le_max_left _ _, rfl, rfl, HO1.out⟩
            case round =>
              obtain ⟨n', a', c', hm1, hm2, rfl, rfl, HZ⟩ := hrel
              rename World => wz
              have hn5 : n' ≤ 10001 := by have := HN4.out; have := HT9.out; omega
              have hn6 : (n' : Int) ≤ 10001 := by omega
              by_cases hge : n' ≤ n1
              · have hge2 : (n' : Int) ≤ (n1 : Int) := by omega
                have HGE := Lib.hid (⟨hge, hm1⟩ : _ ∧ _)
                have HA1 := Lib.hid (HAP.out _ _ _ _ _ HZ.out (by omega))
                have hfn : f n' = false := HTF.out n' (by omega)
                have HFN := Lib.hid hfn
                clear hge hfn hm1 hm2 HZ hn5
                go_wp2_with (at_builtin; refine wpList_append_run rfl (.tmp 77) (.tmp 78) 36 rfl (.slice a' n' c') (.slice (some ⟨wz.heap.size, 0, none⟩) 1 1) (by simp [Act.eval]) (by simp [Act.eval]) _ HA1.out ?_; rintro vv w7 ⟨g7, c7, rfl, n1, n2, n3, n4, n5⟩; have HN1 := Lib.hid n1; clear n1 n2 n3 n4 n5)
                go_roundg (n1 + 1 - (n' + 1))
                case rel =>
                  obtain ⟨h1, h2⟩ := HGE.out
                  exact ⟨n' + 1, _, _, by omega, by omega, rfl, rfl, by rw [bl_succ, HFN.out]; exact HN1.out⟩
                case measure => obtain ⟨h1, h2⟩ := HGE.out; omega
              · have hge2 : (n1 : Int) < (n' : Int) := by omega
                have HNE := Lib.hid (show n' = max n (n1 + 1) by omega)
                have hn0 : 0 < n' := by omega
                obtain ⟨g, rfl, hg, -, -⟩ := HZ.out.rowCell hn0
                have HOZ := Lib.hid HZ.out
                have HG := Lib.hid hg
                have hde : decide (n' ≤ n1) = false := decide_eq_false (by omega)
                have hde2 : decide ((n' : Int) ≤ (n1 : Int)) = false := decide_eq_false (by omega)
                clear hge hm1 hm2 hn5 HZ hg hn0
                go_wp2_with fail
                clear hde hde2
                go_loopg [10] (n1 + 1 - n1) (fun nn s10 wy => ∃ i : Nat, n1 ≤ i ∧ i ≤ max n1 (n1 + 1) ∧ nn = n1 + 1 - i ∧ s10 = .int .i64 i ∧ Hid (Own w wy 4 1 (.slice (some ⟨g, 0, none⟩) n' c') n' (bl n' (fun j => f j || (decide (n1 ≤ j) && decide (j < i))))))
                case atStart =>
                  refine ⟨n1, Nat.le_refl _, Nat.le_max_left _ _, rfl, rfl, ?_⟩
                  rw [bl_congr (g := f) (fun i _ => by
                    have : (decide (n1 ≤ i) && decide (i < n1)) = false := by simp <;> omega
                    rw [this, Bool.or_false])]
                  exact HOZ.out
                case round =>
                  obtain ⟨i, hi1, hi2, rfl, rfl, HY⟩ := hrel
                  rename World => wy
                  by_cases hie : i ≤ n1
                  · have hie2 : (i : Int) ≤ (n1 : Int) := by omega
                    have hin : (i : Int) < (n' : Int) := by have := HNE.out; omega
                    obtain ⟨g', e', -, hcg, hfz⟩ := HY.out.rowCell (by have := HNE.out; omega)
                    simp only [Option.some.injEq, Addr.mk.injEq, and_true] at e'
                    subst e'
                    have x := hcg i (.bool (f i || (decide (n1 ≤ i) && decide (i < i)))) (by unfold bl; simp [show i < n' by have := HNE.out; omega])
                    have fx := hfz i
                    have HI := Lib.hid (⟨hi1, hi2, hie⟩ : _ ∧ _ ∧ _)
                    have HSTO := Lib.hid (HY.out.stored HG.out i (.bool true))
                    generalize (f i || (decide (n1 ≤ i) && decide (i < i))) = bv at x
                    clear hi1 hi2 hie hcg hfz HY
                    go_wp2_with fail
                    go_roundg (n1 + 1 - (i + 1))
                    case rel =>
                      obtain ⟨h1, h2, h3⟩ := HI.out
                      refine ⟨i + 1, by omega, by omega, rfl, by go_num, ?_⟩
                      have h4 := HSTO.out
                      rw [bl_set] at h4
                      rw [bl_congr (g := fun j => (f j || (decide (n1 ≤ j) && decide (j < i))) || decide (j = i)) (fun j _ => by
                        rw [Bool.or_assoc]; congr 1; rw [Bool.eq_iff_iff]; simp; omega)]
                      exact h4
                    case measure => obtain ⟨h1, h2, h3⟩ := HI.out; omega
                  · have hie2 : (n1 : Int) < (i : Int) := by omega
                    have HI := Lib.hid (⟨hi1, hi2, hie⟩ : _ ∧ _ ∧ _)
                    have HROW : Hid (Own w wy 4 1 (.slice (some ⟨g, 0, none⟩) n' c') n' (bl n' (fun j => f j || (decide (n1 ≤ j) && decide (j ≤ n1)))) ∧ (∀ j, n' ≤ j → (f j || (decide (n1 ≤ j) && decide (j ≤ n1))) = false) ∧ n' ≤ 10000 ∧ ∀ it : It, it.s = n1 → it.to = n1 → (n', fun j => f j || (decide (n1 ≤ j) && decide (j ≤ n1))) = (L ++ [it]).foldl stepI (0, fun _ => false)) := Lib.hid (by
                      have q1 := HNE.out
                      refine ⟨?_, fun j hj => ?_, by have := HN4.out; have := HT9.out; omega, fun it e1 e2 => ?_⟩
                      · rw [bl_congr (g := fun j => f j || (decide (n1 ≤ j) && decide (j < i))) (fun j _ => by
                          congr 1; rw [Bool.eq_iff_iff]; simp; omega)]
                        exact HY.out
                      · rw [HTF.out j (by omega)]
                        simp
                        omega
                      · rw [List.foldl_append, ← HFO.out]
                        show _ = stepI (n, f) it
                        unfold stepI
                        rw [e1, e2, q1])
                    clear hi1 hi2 hie HY
                    go_wp2_with fail
                    go_roundg (l.length + 1 - (q1 + 1))
                    case rel =>
                      obtain ⟨it, g1, g2, g3, g4⟩ := HIT.out
                      obtain ⟨r1, r2, r3, r4⟩ := HROW.out
                      refine ⟨L ++ [it], q1 + 1, n', _, _, _, HLTQ.out, rfl, rfl, by go_num, r1, r2, r3, fun j hj => ?_, ?_, r4 it g2 g3, fin_more HFI.out HIG.out HD5.out HLTQ.out HMEAS.out⟩
                      · rcases List.mem_append.1 hj with hj | hj
                        · exact HLG.out j hj
                        · rw [List.mem_singleton.1 hj]; exact ⟨g1, by rw [g2, g3]; exact HLE.out⟩
                      · rw [pre_snoc]
                        conv => lhs; rw [HPRE.out, g4, HD5.out]
                        simp
                    case measure => have := HLTQ.out; have := HMEAS.out; omega
          · have HB4 := Lib.hid (end_other hlt hby2)
            have hb3 : (byI l q1 != 44) = true := bne_iff_ne.2 hby2
            have hb4 : (byI l q1 == 44) = false := beq_eq_false_iff_ne.2 hby2
            have hb5 : decide (byI l q1 = 44) = false := decide_eq_false hby2
            go_wp2_with fail
            go_ret2
            exact ⟨a, c, n, f, false, rfl, HO1.out, HN4.out, HTF.out, fun h => by simp at h, (fin_false HFI.out (by rw [HIG.out]; exact HB4.out)).symm⟩

end Go.Proofs.YtcolffccbmpndaaGreatDoor
