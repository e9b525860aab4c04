/- parseIgnoreBytes. -/
import Derived.Test.YtcolffccbmpndaaGreatDoorIgQ
namespace Go.Proofs.YtcolffccbmpndaaGreatDoor
open Go.RowKit Go.Deep
set_option maxRecDepth 100000

theorem ownsRow_lower {w : World} {b b' : Nat} {e : TypeId} {size : Nat} {v : Value} {n : Nat} {xs : List Value} (ho : w.ownsRow b' e size v n xs) (h : b ≤ b') : w.ownsRow b e size v n xs := by
  refine ⟨ho.1, ?_⟩
  rcases ho.2 with hn | ⟨g, cap, cur, h1, h2, r⟩
  · exact .inl hn
  · exact .inr ⟨g, cap, cur, h1, Nat.le_trans h h2, r⟩
theorem Own.lower {w0 w1 w : World} {e : TypeId} {sz : Nat} {v : Value} {n : Nat} {xs : List Value} (h : Own w1 w e sz v n xs) (t : Tch [] w0 w1) : Own w0 w e sz v n xs := ⟨t.trans h.t, ownsRow_lower h.row t.size⟩
theorem Own.rowCell {w0 w : World} {e : TypeId} {a : Option Addr} {n c : Nat} {xs : List Value} (h : Own w0 w e 1 (.slice a n c) n xs) (hn : 0 < n) : ∃ g, a = some ⟨g, 0, none⟩ ∧ w0.heap.size ≤ g ∧ (∀ j v, xs[j]? = some v → w.cell? ⟨g, j, none⟩ = some v) ∧ ∀ j, w.frozen? ⟨g, j, none⟩ = false := by
  obtain ⟨-, ⟨h1, -⟩ | ⟨g, cap, cur, h1, hb, hg, -⟩⟩ := h.row
  · simp only [Value.slice.injEq] at h1; omega
  · simp only [Value.slice.injEq, true_and] at h1
    obtain ⟨rfl, rfl⟩ := h1
    refine ⟨g, rfl, hb, fun j v hv => ?_, fun j => ?_⟩
    · have := (own_cell h.row hv).2
      have e1 : (⟨g, 0, none⟩ : Addr).add j = ⟨g, j, none⟩ := by unfold Addr.add; split <;> simp_all
      rw [e1] at this
      exact this
    · simp only [World.frozen?, hg]; first | rfl | simp
theorem Own.stored {w0 w : World} {e : TypeId} {g n c : Nat} {xs : List Value} (h : Own w0 w e 1 (.slice (some ⟨g, 0, none⟩) n c) n xs) (hg : w0.heap.size ≤ g) (j : Nat) (u : Value) : Own w0 (w.setCell ⟨g, j, none⟩ u) e 1 (.slice (some ⟨g, 0, none⟩) n c) n (xs.set j u) :=
  ⟨h.t.setCell (p := ⟨g, j, none⟩) (fun hlt => absurd hlt (Nat.not_lt.2 hg)) _, (h.row.stored j u).1⟩

theorem runP_none {x : Nat × (Nat → Bool)} {p : List UInt8} {ps : List (List UInt8)} (h : itemP p = none) : runP x (p :: ps) = none := by
  conv => lhs; unfold runP
  rw [h]
theorem runP_some {x : Nat × (Nat → Bool)} {p : List UInt8} {ps : List (List UInt8)} {s : Int} {e : Option Int} (h : itemP p = some (s, e)) : runP x (p :: ps) = runP (upTo x.1 s.toNat (e.map Int.toNat), setF x.2 s.toNat (e.map Int.toNat)) ps := by
  conv => lhs; unfold runP
  rw [h]
theorem splitB_len {c : UInt8} : ∀ (l : List UInt8), (splitB c l).length ≤ l.length + 1
  | [] => by simp [splitB]
  | b :: t => by
    have ih := splitB_len (c := c) t
    unfold splitB
    split
    · simp; omega
    · split
      · rename_i p ps h
        rw [h] at ih
        simp at ih ⊢
        omega
      · simp
theorem splitB_piece {c : UInt8} : ∀ (l : List UInt8), ∀ p ∈ splitB c l, p.length ≤ l.length
  | [], p, hp => by simp [splitB] at hp; simp [hp]
  | b :: t, p, hp => by
    have ih := splitB_piece (c := c) t
    unfold splitB at hp
    split at hp
    · rcases List.mem_cons.1 hp with rfl | hp
      · simp
      · have := ih p hp; simp; omega
    · split at hp
      · rename_i q qs h
        rcases List.mem_cons.1 hp with rfl | hp
        · have := ih q (by rw [h]; simp); simp; omega
        · have := ih p (by rw [h]; simp [hp]); simp; omega
      · simp at hp; simp [hp]

theorem Tryz.infoBool : (Tryz.prog.info? 4).map (fun i => (i.zero, i.size, i.bytes)) = some (some (.bool false), 1, 1) := by kernel_rfl

/-- What parseIgnoreBytes tells. -/
def ParseEnd (w : World) (r : Option (Nat × (Nat → Bool))) (e : Ending) (w' : World) : Prop :=
  ∃ a c n f err, e = .returned (.tuple #[.slice a n c, err]) ∧ Own w w' 4 1 (.slice a n c) n (bl n f) ∧ n ≤ 10000 ∧ (∀ i, n ≤ i → f i = false) ∧ ((r = some (n, f) ∧ err = .nilIface) ∨ (r = none ∧ ∃ t p, err = .iface t p))

set_option maxHeartbeats 8000000 in
theorem parse_any (l : List UInt8) (w : World) (hl : l.length ≤ 1000000) (ht : Tabs w) (hsm : ∀ p ∈ splitB 44 (trimS l), smallI p) :
    Calls Tryz.prog 47 #[.string (bs l)] w (ParseEnd w (parseP l)) := by
  by_cases hl0 : l = []
  · subst hl0
    go_enter Tryz.func47, Tryz.ntmps47
    go_wp2_with fail
    go_ret2
    exact ⟨none, 0, 0, fun _ => false, _, rfl, Own.nil _ _ _, by omega, fun _ _ => rfl, .inl ⟨rfl, rfl⟩⟩
  have hpp : parseP l = runP (0, fun _ => false) (splitB 44 (trimS l)) := by unfold parseP; rw [if_neg hl0]
  have HPP := Lib.hid hpp
  have hle := trimS_le l
  have hsl := splitB_len (c := 44) (trimS l)
  have HPL := Lib.hid (fun p hp => Nat.le_trans (splitB_piece (c := 44) (trimS l) p hp) hle)
  have hT := fun (x : List UInt8) (w' : World) (t : Tch [] w w') (hx : x.length ≤ 1000000) => trim_any x w' (by omega) (ht.tch t)
  have HT := Lib.hid hT
  have hS := fun (c : UInt8) (x : List UInt8) (w' : World) (hx : x.length ≤ 1000000) => zzSplit_any x c w' (by omega)
  have HS := Lib.hid hS
  have hA := fun (x : List UInt8) (w' : World) (t : Tch [] w w') (hx : x.length ≤ 1000000) => atoi_any x w' (by omega) (ht.tch t)
  have HAT := Lib.hid hA
  have HSM := Lib.hid hsm
  obtain ⟨i0, hinf, hz0, hz1, hz2⟩ := info_parts Tryz.infoBool
  have HAP := Lib.hid (fun (w0 wr : World) (v : Value) (n : Nat) (xs : List Value) (h : Own w0 wr 4 1 v n xs) (hn : n ≤ 100000000) => own_app (ty := 36) Tryz.underlying36 hinf hz0 hz1 hz2 rfl (by decide) (by decide) #[.bool false] h hn rfl (by simp [Value.oneCell']))
  have hb0 : (l == []) = false := by simpa using hl0
  have hb1 : l.isEmpty = false := by simpa using hl0
  have HLE := Lib.hid (show l.length ≤ 1000000 from hl)
  have HLE2 := Lib.hid (show (trimS l).length ≤ 1000000 by omega)
  have hpn : ((splitB 44 (trimS l)).length : Int) ≤ 1000001 := by omega
  have hp0 : 0 < (splitB 44 (trimS l)).length := List.length_pos_iff.2 (splitB_ne _ _)
  clear hl0 hpp hle hsl hT hS hA hinf hz0 hz1 hz2 ht hsm hl
  go_enter Tryz.func47, Tryz.ntmps47
  go_wp2_with fail
  refine (HT.out l _ (Tch.refl _ _) HLE.out).mono ?_
  rintro e w1 ⟨rfl, t⟩
  have HT1 := Lib.hid t
  clear t
  go_wp2_with fail
  refine (HS.out 44 (trimS l) _ HLE2.out).mono ?_
  rintro e w2 ⟨sa, sc, rfl, how⟩
  have HROW := Lib.hid how
  have HT2 := Lib.hid (HT1.out.trans how.t)
  obtain ⟨gS, hgS, -, hcS, -⟩ := how.rowCell hp0
  subst hgS
  have HCS := Lib.hid (fun j v hv => hcS j v hv)
  generalize hps : splitB 44 (trimS l) = ps at *
  clear how hcS hps hp0
  go_wp2_with fail
  go_loopg [4, 22] ps.length (fun nn s4 s22 wr => ∃ (k n : Nat) (f : Nat → Bool) (a : Option Addr) (c : Nat), k ≤ ps.length ∧ nn = ps.length - k ∧ s4 = .slice a n c ∧ s22 = .int .i64 k ∧ Hid (Own w2 wr 4 1 (.slice a n c) n (bl n f) ∧ (∀ i, n ≤ i → f i = false) ∧ n ≤ 10000 ∧ runP (0, fun _ => false) ps = runP (n, f) (ps.drop k)))
  case atStart => exact ⟨0, 0, fun _ => false, none, 0, Nat.zero_le _, rfl, rfl, rfl, Own.nil _ _ _, fun _ _ => rfl, by omega, rfl⟩
  case round =>
    obtain ⟨k, n, f, a, c, hk, rfl, rfl, rfl, HR⟩ := hrel
    rename World => wr
    have HTW := Lib.hid (HT2.out.trans HR.out.1.t)
    by_cases hlt : k < ps.length
    · have hlt2 : (k : Int) < ps.length := by omega
      have hmem : ps.getD k [] ∈ ps := by simp [List.getD, List.getElem?_eq_getElem hlt]
      have hcell : wr.cell? ⟨gS, k, none⟩ = some (.string (bs (ps.getD k []))) := cell_tch (HCS.out k _ (by unfold strV; simp [List.getD, List.getElem?_eq_getElem hlt])) HR.out.1.t
      have hdrop : ps.drop k = ps.getD k [] :: ps.drop (k + 1) := by
        rw [List.drop_eq_getElem_cons hlt]
        simp [List.getD, List.getElem?_eq_getElem hlt]
      have hrun := HR.out.2.2.2
      rw [hdrop] at hrun
      have HRUN := Lib.hid hrun
      have HSMP := Lib.hid (HSM.out _ hmem)
      have hpl : (ps.getD k []).length ≤ 1000000 := Nat.le_trans (HPL.out _ hmem) HLE.out
      have HPL1 := Lib.hid hpl
      have HOW := Lib.hid HR.out.1
      have HTF := Lib.hid HR.out.2.1
      have hn4 : n ≤ 10000 := HR.out.2.2.1
      have HN4 := Lib.hid hn4
      have HLT := Lib.hid hlt
      generalize ps.getD k [] = p at *
      clear hmem hdrop hrun hpl hlt HR hn4
      go_wp2_with fail
      refine (HT.out p _ HTW.out HPL1.out).mono ?_
      rintro e w3 ⟨rfl, t⟩
      have HT3 := Lib.hid t
      have HW3 := Lib.hid (HTW.out.trans t)
      clear t hcell
      have hple : (trimS p).length ≤ 1000000 := Nat.le_trans (trimS_le p) HPL1.out
      have HPL2 := Lib.hid hple
      have hsl := splitB_len (c := 45) (trimS p)
      clear hple
      go_wp2_with fail
      refine (HS.out 45 (trimS p) _ HPL2.out).mono ?_
      rintro e w4 ⟨ra, rc, rfl, how⟩
      have HT4 := Lib.hid (HT3.out.trans how.t)
      have HW4 := Lib.hid (HW3.out.trans how.t)
      have HITEM : Hid (itemP p = match splitB 45 (trimS p) with
        | [a] => (atoiO (trimS a)).map (fun s => (s, none))
        | [a, b] => (atoiO (trimS b)).bind (fun e => (atoiO (trimS a)).map (fun s => (s, some e)))
        | _ => none) := Lib.hid rfl
      have HQL := Lib.hid (fun q hq => Nat.le_trans (splitB_piece (c := 45) (trimS p) q hq) HPL2.out)
      have hq0 := splitB_ne 45 (trimS p)
      obtain ⟨gR, hgR, -, hcR, -⟩ := how.rowCell (List.length_pos_iff.2 hq0)
      subst hgR
      have HCR := Lib.hid (fun w' (t : Tch [] w4 w') j v hv => cell_tch (hcR j v hv) t)
      have HOW4 := Lib.hid (HOW.out.tch HT4.out)
      have hqi : ((splitB 45 (trimS p)).length : Int) ≤ 1000001 := by have := HPL2.out; omega
      generalize splitB 45 (trimS p) = qs at *
      clear how hcR hsl
      cases qs with
      | nil => exact absurd rfl hq0
      | cons qa q1 =>
      have HPL3qa := Lib.hid (HQL.out qa (by simp))
      clear hq0
      cases q1 with
      | nil =>
        have hl1 : ([qa] : List (List UInt8)).length = 1 := rfl
        have hcr0 := HCR.out _ (Tch.refl [] w4) 0 (.string (bs qa)) rfl
        have hq0 := HPL3qa.out
        go_wp2_with fail
        refine (HT.out qa _ HW4.out hq0).mono ?_
        rintro e w5a ⟨rfl, t⟩
        have HRw5a := Lib.hid ((Tch.refl [] w4).trans t)
        have HWw5a := Lib.hid (HW4.out.trans t)
        clear t hcr0 hq0
        go_wp2_with fail
        refine (HAT.out (trimS qa) _ HWw5a.out (Nat.le_trans (trimS_le qa) HPL3qa.out)).mono ?_
        rintro e w5b ⟨na, nae, rfl, hcna, t⟩
        have HRw5b := Lib.hid (HRw5a.out.trans t)
        have HWw5b := Lib.hid (HWw5a.out.trans t)
        clear t
        rcases hcna with ⟨hona, rfl⟩ | ⟨hona, et, ep, rfl⟩
        rotate_left
        · have hit : itemP p = none := by
            refine HITEM.out.trans ?_
            rw [show (atoiO (trimS qa)) = none from hona]; rfl
          have HIT := Lib.hid hit
          clear hit hona
          go_wp2_with fail
          go_ret2
          exact ⟨a, c, n, f, _, rfl, (HOW4.out.tch HRw5b.out).lower HT2.out, HN4.out, HTF.out, .inr ⟨by rw [HPP.out, HRUN.out, runP_none HIT.out], _, _, rfl⟩⟩
        have hit : itemP p = some (na, none) := by
          refine HITEM.out.trans ?_
          show (atoiO (trimS qa)).map _ = _
          rw [hona]; rfl
        obtain ⟨hs0, hs1, -⟩ := HSMP.out _ _ hit
        obtain ⟨sN, rfl⟩ : ∃ sN : Nat, na = sN := ⟨na.toNat, by omega⟩
        have HIT := Lib.hid hit
        have HSS := Lib.hid (show sN ≤ 9999 by omega)
        have hsi : (sN : Int) ≤ 9999 := by omega
        have hs2 : ¬ ((sN : Int) = -1) := by omega
        have hs3 : decide ((sN : Int) = -1) = false := decide_eq_false hs2
        have hs4 : ((sN : Int) == -1) = false := beq_eq_false_iff_ne.2 hs2
        have HOW5 := Lib.hid (HOW4.out.tch HRw5b.out)
        clear hit hona hs0 hs1
        go_wp2_with fail
        go_loopg [4] (sN + 1 - n) (fun nn s4 wz => ∃ (n' : Nat) (a' : Option Addr) (c' : Nat), n ≤ n' ∧ n' ≤ max n (sN + 1) ∧ nn = sN + 1 - n' ∧ s4 = .slice a' n' c' ∧ Hid (Own w2 wz 4 1 (.slice a' n' c') n' (bl n' f)))
        case atStart => exact ⟨n, _, _, Nat.le_refl _, Nat.le_max_left _ _, rfl, rfl, HOW5.out⟩
        case round =>
          obtain ⟨n', a', c', hn1, hn2, rfl, rfl, HZ⟩ := hrel
          rename World => wz
          have hn5 : n' ≤ 10001 := by have := HN4.out; have := HSS.out; omega
          have hn6 : (n' : Int) ≤ 10001 := by omega
          by_cases hge : n' ≤ sN
          · have hge2 : (n' : Int) ≤ (sN : Int) := by omega
            have HGE := Lib.hid (⟨hge, hn1⟩ : _ ∧ _)
            have HA1 := Lib.hid (HAP.out _ _ _ _ _ HZ.out (by omega))
            have hfn : f n' = false := HTF.out n' (by omega)
            have HFN := Lib.hid hfn
            clear hge hfn hn1 hn2 HZ hn5
            go_wp2_with (at_builtin; refine wpList_append_run rfl (.tmp 76) (.tmp 77) 36 rfl (.slice a' n' c') (.slice (some ⟨wz.heap.size, 0, none⟩) 1 1) (by simp [Act.eval]) (by simp [Act.eval]) _ HA1.out ?_; rintro vv w7 ⟨g7, c7, rfl, n1, n2, n3, n4, n5⟩; have HN1 := Lib.hid n1; clear n1 n2 n3 n4 n5)
            go_roundg (sN + 1 - (n' + 1))
            case rel =>
              obtain ⟨h1, h2⟩ := HGE.out
              exact ⟨n' + 1, _, _, by omega, by omega, rfl, rfl, by rw [bl_succ, HFN.out]; exact HN1.out⟩
            case measure => obtain ⟨h1, h2⟩ := HGE.out; omega
          · have hge2 : (sN : Int) < (n' : Int) := by omega
            have HNE := Lib.hid (show n' = max n (sN + 1) by omega)
            have HOZ := Lib.hid HZ.out
            have hn0 : 0 < n' := by omega
            obtain ⟨g, rfl, hg, hcg, hfz⟩ := HZ.out.rowCell hn0
            have x := hcg sN (.bool (f sN)) (by unfold bl; simp [show sN < n' by omega])
            have fx := hfz sN
            have HG := Lib.hid hg
            have hneg : ¬ ((n' : Int) ≤ -1) := by omega
            have hneg2 : (-1 : Int) < (n' : Int) := by omega
            clear hge hn1 hn2 hn5 HZ hcg hfz hg hn0
            go_wp2_with fail
            go_loopg [4] 0 (fun nn s4 wy => s4 = .slice (some ⟨g, 0, none⟩) n' c' ∧ Hid (wy = wz))
            case atStart => exact ⟨rfl, rfl⟩
            case round =>
              obtain ⟨rfl, HE⟩ := hrel
              have hE := HE.out
              subst hE
              go_wp2_with fail
              go_roundg (ps.length - (k + 1))
              case rel =>
                refine ⟨k + 1, n', setF f sN none, some ⟨g, 0, none⟩, c', by have := HLT.out; omega, rfl, rfl, by go_num, ?_, fun i hi => ?_, by have := HNE.out; have := HN4.out; have := HSS.out; omega, ?_⟩
                · have h1 := HOZ.out.stored HG.out sN (.bool true)
                  rw [bl_set] at h1
                  rw [bl_congr (g := fun j => f j || decide (j = sN)) (fun i _ => by unfold setF; simp only [Option.getD_none]; congr 1; rw [Bool.eq_iff_iff]; simp; omega)]
                  exact h1
                · unfold setF
                  rw [HTF.out i (by have := HNE.out; omega)]
                  have := HNE.out
                  simp
                  omega
                · rw [HRUN.out, runP_some HIT.out]
                  have h1 : upTo n sN none = n' := by rw [HNE.out]; unfold upTo; simp only []; omega
                  show runP (upTo n (sN : Int).toNat none, setF f (sN : Int).toNat none) _ = _
                  rw [Int.toNat_natCast, h1]
              case measure => have := HLT.out; omega
      | cons qb q2 =>
      cases q2 with
      | nil =>
        have hl2 : ([qa, qb] : List (List UInt8)).length = 2 := rfl
        have HPL3qb := Lib.hid (HQL.out qb (by simp))
        have hcr1 := HCR.out _ (Tch.refl [] w4) 1 (.string (bs qb)) rfl
        have hq1 := HPL3qb.out
        go_wp2_with fail
        refine (HT.out qb _ HW4.out hq1).mono ?_
        rintro e w5a ⟨rfl, t⟩
        have HRw5a := Lib.hid ((Tch.refl [] w4).trans t)
        have HWw5a := Lib.hid (HW4.out.trans t)
        clear t hcr1 hq1
        go_wp2_with fail
        refine (HAT.out (trimS qb) _ HWw5a.out (Nat.le_trans (trimS_le qb) HPL3qb.out)).mono ?_
        rintro e w5b ⟨nb, nbe, rfl, hcnb, t⟩
        have HRw5b := Lib.hid (HRw5a.out.trans t)
        have HWw5b := Lib.hid (HWw5a.out.trans t)
        clear t
        rcases hcnb with ⟨honb, rfl⟩ | ⟨honb, et, ep, rfl⟩
        rotate_left
        · have hit : itemP p = none := by
            refine HITEM.out.trans ?_
            rw [show (atoiO (trimS qb)) = none from honb]; rfl
          have HIT := Lib.hid hit
          clear hit honb
          go_wp2_with fail
          go_ret2
          exact ⟨a, c, n, f, _, rfl, (HOW4.out.tch HRw5b.out).lower HT2.out, HN4.out, HTF.out, .inr ⟨by rw [HPP.out, HRUN.out, runP_none HIT.out], _, _, rfl⟩⟩
        have HNB := Lib.hid honb
        clear honb
        have hcr0 := HCR.out _ HRw5b.out 0 (.string (bs qa)) rfl
        have hq0 := HPL3qa.out
        go_wp2_with fail
        refine (HT.out qa _ HWw5b.out hq0).mono ?_
        rintro e w6a ⟨rfl, t⟩
        have HRw6a := Lib.hid (HRw5b.out.trans t)
        have HWw6a := Lib.hid (HWw5b.out.trans t)
        clear t hcr0 hq0
        go_wp2_with fail
        refine (HAT.out (trimS qa) _ HWw6a.out (Nat.le_trans (trimS_le qa) HPL3qa.out)).mono ?_
        rintro e w6b ⟨na, nae, rfl, hcna, t⟩
        have HRw6b := Lib.hid (HRw6a.out.trans t)
        have HWw6b := Lib.hid (HWw6a.out.trans t)
        clear t
        rcases hcna with ⟨hona, rfl⟩ | ⟨hona, et, ep, rfl⟩
        rotate_left
        · have hit : itemP p = none := by
            refine HITEM.out.trans ?_
            show (atoiO (trimS qb)).bind _ = none; rw [HNB.out]; show (atoiO (trimS qa)).map _ = none; rw [hona]; rfl
          have HIT := Lib.hid hit
          clear hit hona
          go_wp2_with fail
          go_ret2
          exact ⟨a, c, n, f, _, rfl, (HOW4.out.tch HRw6b.out).lower HT2.out, HN4.out, HTF.out, .inr ⟨by rw [HPP.out, HRUN.out, runP_none HIT.out], _, _, rfl⟩⟩
        have hit : itemP p = some (na, some nb) := by
          refine HITEM.out.trans ?_
          show (atoiO (trimS qb)).bind _ = _
          rw [HNB.out]
          show (atoiO (trimS qa)).map _ = _
          rw [hona]; rfl
        obtain ⟨hs0, hs1, he⟩ := HSMP.out _ _ hit
        obtain ⟨he0, he1⟩ := he nb rfl
        obtain ⟨sN, rfl⟩ : ∃ sN : Nat, na = sN := ⟨na.toNat, by omega⟩
        obtain ⟨eN, rfl⟩ : ∃ eN : Nat, nb = eN := ⟨nb.toNat, by omega⟩
        have HIT := Lib.hid hit
        have HSS := Lib.hid (show sN ≤ 9999 by omega)
        have HES := Lib.hid (show eN ≤ 9999 by omega)
        have hsi : (sN : Int) ≤ 9999 := by omega
        have hei : (eN : Int) ≤ 9999 := by omega
        have hs2 : ¬ ((sN : Int) = -1) := by omega
        have hs3 : decide ((sN : Int) = -1) = false := decide_eq_false hs2
        have hs4 : ((sN : Int) == -1) = false := beq_eq_false_iff_ne.2 hs2
        have HOW5 := Lib.hid (HOW4.out.tch HRw6b.out)
        clear hit hona hs0 hs1 he he0 he1 hqi hl2
        go_wp2_with fail
        go_loopg [4] (sN + 1 - n) (fun nn s4 wz => ∃ (n' : Nat) (a' : Option Addr) (c' : Nat), n ≤ n' ∧ n' ≤ max n (sN + 1) ∧ nn = sN + 1 - n' ∧ s4 = .slice a' n' c' ∧ Hid (Own w2 wz 4 1 (.slice a' n' c') n' (bl n' f)))
        case atStart => exact ⟨n, _, _, Nat.le_refl _, Nat.le_max_left _ _, rfl, rfl, HOW5.out⟩
        case round =>
          obtain ⟨n', a', c', hn1, hn2, rfl, rfl, HZ⟩ := hrel
          rename World => wz
          have hn5 : n' ≤ 10001 := by have := HN4.out; have := HSS.out; omega
          have hn6 : (n' : Int) ≤ 10001 := by omega
          by_cases hge : n' ≤ sN
          · have hge2 : (n' : Int) ≤ (sN : Int) := by omega
            have HGE := Lib.hid (⟨hge, hn1⟩ : _ ∧ _)
            have HA1 := Lib.hid (HAP.out _ _ _ _ _ HZ.out (by omega))
            have hfn : f n' = false := HTF.out n' (by omega)
            have HFN := Lib.hid hfn
            clear hge hfn hn1 hn2 HZ hn5
            go_wp2_with (at_builtin; refine wpList_append_run rfl (.tmp 76) (.tmp 77) 36 rfl (.slice a' n' c') (.slice (some ⟨wz.heap.size, 0, none⟩) 1 1) (by simp [Act.eval]) (by simp [Act.eval]) _ HA1.out ?_; rintro vv w7 ⟨g7, c7, rfl, n1, n2, n3, n4, n5⟩; have HN1 := Lib.hid n1; clear n1 n2 n3 n4 n5)
            go_roundg (sN + 1 - (n' + 1))
            case rel =>
              obtain ⟨h1, h2⟩ := HGE.out
              exact ⟨n' + 1, _, _, by omega, by omega, rfl, rfl, by rw [bl_succ, HFN.out]; exact HN1.out⟩
            case measure => obtain ⟨h1, h2⟩ := HGE.out; omega
          · have hge2 : (sN : Int) < (n' : Int) := by omega
            have HNE := Lib.hid (show n' = max n (sN + 1) by omega)
            have HOZ0 := Lib.hid HZ.out
            have HN9 := Lib.hid (show n' ≤ 10000 by have := HSS.out; have := HN4.out; omega)
            have hde : decide (n' ≤ sN) = false := decide_eq_false (by omega)
            have hde2 : decide ((n' : Int) ≤ (sN : Int)) = false := decide_eq_false (by omega)
            clear hge hn1 hn2 hn5 HZ hs2 hs3 hs4
            go_wp2_with fail
            clear hde hde2
            go_loopg [4] (eN + 1 - n') (fun nn s4 wzq => ∃ (nq' : Nat) (aq' : Option Addr) (cq' : Nat), n' ≤ nq' ∧ nq' ≤ max n' (eN + 1) ∧ nn = eN + 1 - nq' ∧ s4 = .slice aq' nq' cq' ∧ Hid (Own w2 wzq 4 1 (.slice aq' nq' cq') nq' (bl nq' f)))
            case atStart => exact ⟨n', _, _, Nat.le_refl _, Nat.le_max_left _ _, rfl, rfl, HOZ0.out⟩
            case round =>
              obtain ⟨nq', aq', cq', hn1q, hn2q, rfl, rfl, HZq⟩ := hrel
              rename World => wzq
              have hn5q : nq' ≤ 10001 := by have := HN9.out; have := HES.out; omega
              have hn6q : (nq' : Int) ≤ 10001 := by omega
              by_cases hgeq : nq' ≤ eN
              · have hge2q : (nq' : Int) ≤ (eN : Int) := by omega
                have HGEq := Lib.hid (⟨hgeq, hn1q⟩ : _ ∧ _)
                have HA1q := Lib.hid (HAP.out _ _ _ _ _ HZq.out (by omega))
                have hfnq : f nq' = false := HTF.out nq' (by have := HNE.out; omega)
                have HFNq := Lib.hid hfnq
                clear hgeq hfnq hn1q hn2q HZq hn5q
                go_wp2_with (at_builtin; refine wpList_append_run rfl (.tmp 83) (.tmp 84) 36 rfl (.slice aq' nq' cq') (.slice (some ⟨wzq.heap.size, 0, none⟩) 1 1) (by simp [Act.eval]) (by simp [Act.eval]) _ HA1q.out ?_; rintro vv w7 ⟨g7, c7, rfl, n1, n2, n3, n4, n5⟩; have HN1q := Lib.hid n1; clear n1 n2 n3 n4 n5)
                go_roundg (eN + 1 - (nq' + 1))
                case rel =>
                  obtain ⟨h1, h2⟩ := HGEq.out
                  exact ⟨nq' + 1, _, _, by omega, by omega, rfl, rfl, by rw [bl_succ, HFNq.out]; exact HN1q.out⟩
                case measure => obtain ⟨h1, h2⟩ := HGEq.out; omega
              · have hge2q : (eN : Int) < (nq' : Int) := by omega
                have HNE2 := Lib.hid (show nq' = max n' (eN + 1) by omega)
                have hn0 : 0 < nq' := by omega
                obtain ⟨g, rfl, hg, -, -⟩ := HZq.out.rowCell hn0
                have HOZ := Lib.hid HZq.out
                have HG := Lib.hid hg
                have hde : decide (nq' ≤ eN) = false := decide_eq_false (by omega)
                have hde2 : decide ((nq' : Int) ≤ (eN : Int)) = false := decide_eq_false (by omega)
                clear hgeq hn1q hn2q hn5q HZq hg hn0
                have he2 : ¬ ((eN : Int) = -1) := by omega
                have he3 : decide ((eN : Int) = -1) = false := decide_eq_false he2
                have he4 : ((eN : Int) == -1) = false := beq_eq_false_iff_ne.2 he2
                go_wp2_with fail
                clear hde hde2
                go_loopg [14] (eN + 1 - sN) (fun nn s14 wy => ∃ i : Nat, sN ≤ i ∧ i ≤ max sN (eN + 1) ∧ nn = eN + 1 - i ∧ s14 = .int .i64 i ∧ Hid (Own w2 wy 4 1 (.slice (some ⟨g, 0, none⟩) nq' cq') nq' (bl nq' (fun j => f j || (decide (sN ≤ j) && decide (j < i))))))
                case atStart =>
                  refine ⟨sN, Nat.le_refl _, Nat.le_max_left _ _, rfl, rfl, ?_⟩
                  rw [bl_congr (g := f) (fun i _ => by
                    have : (decide (sN ≤ i) && decide (i < sN)) = false := by simp <;> omega
                    rw [this, Bool.or_false])]
                  exact HOZ.out
                case round =>
                  obtain ⟨i, hi1, hi2, rfl, rfl, HY⟩ := hrel
                  rename World => wy
                  by_cases hie : i ≤ eN
                  · have hie2 : (i : Int) ≤ (eN : Int) := by omega
                    have hin : (i : Int) < (nq' : Int) := by have := HNE2.out; omega
                    obtain ⟨g', e', -, hcg, hfz⟩ := HY.out.rowCell (by have := HNE2.out; omega)
                    simp only [Option.some.injEq, Addr.mk.injEq, and_true] at e'
                    subst e'
                    have x := hcg i (.bool (f i || (decide (sN ≤ i) && decide (i < i)))) (by unfold bl; simp [show i < nq' by have := HNE2.out; omega])
                    have fx := hfz i
                    have HI := Lib.hid (⟨hi1, hi2, hie⟩ : _ ∧ _ ∧ _)
                    have HSTO := Lib.hid (HY.out.stored HG.out i (.bool true))
                    generalize (f i || (decide (sN ≤ i) && decide (i < i))) = bv at x
                    clear hi1 hi2 hie hcg hfz HY
                    go_wp2_with fail
                    go_roundg (eN + 1 - (i + 1))
                    case rel =>
                      obtain ⟨h1, h2, h3⟩ := HI.out
                      refine ⟨i + 1, by omega, by omega, rfl, by go_num, ?_⟩
                      have h4 := HSTO.out
                      rw [bl_set] at h4
                      rw [bl_congr (g := fun j => (f j || (decide (sN ≤ j) && decide (j < i))) || decide (j = i)) (fun j _ => by
                        rw [Bool.or_assoc]; congr 1; rw [Bool.eq_iff_iff]; simp; omega)]
                      exact h4
                    case measure => obtain ⟨h1, h2, h3⟩ := HI.out; omega
                  · have hie2 : (eN : Int) < (i : Int) := by omega
                    have HI := Lib.hid (⟨hi1, hi2, hie⟩ : _ ∧ _ ∧ _)
                    clear hi1 hi2 hie
                    go_wp2_with fail
                    go_roundg (ps.length - (k + 1))
                    case rel =>
                      obtain ⟨h1, h2, h3⟩ := HI.out
                      have q1 := HNE.out
                      have q2 := HNE2.out
                      refine ⟨k + 1, nq', setF f sN (some eN), some ⟨g, 0, none⟩, cq', by have := HLT.out; omega, rfl, rfl, by go_num, ?_, fun j hj => ?_, by have := HN4.out; have := HSS.out; have := HES.out; omega, ?_⟩
                      · rw [bl_congr (g := fun j => f j || (decide (sN ≤ j) && decide (j < i))) (fun j _ => by
                          unfold setF; simp only [Option.getD_some]; congr 1; rw [Bool.eq_iff_iff]; simp; omega)]
                        exact HY.out
                      · unfold setF
                        rw [HTF.out j (by omega)]
                        simp
                        omega
                      · rw [HRUN.out, runP_some HIT.out]
                        have h5 : upTo n sN (some eN) = nq' := by rw [q2, q1]; unfold upTo; simp only []; omega
                        show runP (upTo n (sN : Int).toNat (some (eN : Int).toNat), setF f (sN : Int).toNat (some (eN : Int).toNat)) _ = _
                        rw [Int.toNat_natCast, Int.toNat_natCast, h5]
                    case measure => have := HLT.out; omega
      | cons qc qd =>
        have hit : itemP p = none := HITEM.out
        have HIT := Lib.hid hit
        have hl3 : (2 : Int) < (qd.length : Int) + 1 + 1 + 1 := by omega
        have hl4 : ¬ ((qd.length : Int) + 1 + 1 + 1 = 0) := by omega
        clear hit
        go_wp2_with (go_at_call 48; refine (errNew_any _ _).mono ?_; rintro e w5 ⟨et, ep, rfl, t⟩; have HT5 := Lib.hid t; clear t)
        go_ret2
        exact ⟨a, c, n, f, _, rfl, (HOW4.out.tch HT5.out).lower HT2.out, HN4.out, HTF.out, .inr ⟨by rw [HPP.out, HRUN.out, runP_none HIT.out], _, _, rfl⟩⟩
    · obtain rfl : k = ps.length := by omega
      have hrun := HR.out.2.2.2
      rw [List.drop_length] at hrun
      have HRUN := Lib.hid hrun
      clear hlt hrun
      go_wp2_with fail
      go_ret2
      exact ⟨a, c, n, f, _, rfl, HR.out.1.lower HT2.out, HR.out.2.2.1, HR.out.2.1, .inl ⟨by rw [HPP.out, HRUN.out]; rfl, rfl⟩⟩

end Go.Proofs.YtcolffccbmpndaaGreatDoor
