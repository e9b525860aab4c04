/- (*Trie).fix: a number struck; a text of holes that is none. -/
import Derived.Test.YtcolffccbmpndaaGreatDoorTrF
namespace Go.Proofs.YtcolffccbmpndaaGreatDoor
open Go.RowKit Go.Deep
set_option maxRecDepth 100000

theorem addr_add0 (g j : Nat) : (⟨g, 0, none⟩ : Addr).add j = ⟨g, j, none⟩ := by unfold Addr.add; split <;> simp_all
/-- The numbers that are not id. -/
abbrev flt (id : Int) (l : List Int) : List Int := l.filter (fun x => id != x)
theorem flt_snoc (id : Int) (l : List Int) {k : Nat} (hk : k < l.length) : flt id (l.take (k + 1)) = flt id (l.take k) ++ if id = l.getD k 0 then [] else [l.getD k 0] := by
  unfold flt
  rw [List.take_succ_eq_append_getElem hk, List.filter_append]
  have e : l.getD k 0 = l[k] := by simp [List.getD, List.getElem?_eq_getElem hk]
  rw [e]
  by_cases h : id = l[k]
  · simp [← h]
  · simp [h]
theorem own_put {w : World} {base g m c : Nat} {e : TypeId} {xs : List Value} {u : Value} (h : w.ownsRow base e 1 (.slice (some ⟨g, 0, none⟩) m c) m xs) (hm : m < c) : (w.setCell ⟨g, m, none⟩ u).ownsRow base e 1 (.slice (some ⟨g, 0, none⟩) (m + 1) c) (m + 1) (xs ++ [u]) := by
  obtain ⟨hl, ⟨h1, -⟩ | ⟨g', cap, cur, h1, hb, hc, hn, hcm, hcs, ht⟩⟩ := h
  · simp at h1
  · simp only [Value.slice.injEq, Option.some.injEq, Addr.mk.injEq, true_and, and_true] at h1
    obtain ⟨rfl, rfl⟩ := h1
    refine ⟨by simp; omega, .inr ⟨g, c, cur.setIfInBounds m u, rfl, hb, heap_setCell_same w g m cur e u hc, hm, hcm, by simpa using hcs, ?_⟩⟩
    have hms : m < cur.toList.length := by simp; omega
    rw [Array.toList_setIfInBounds, Nat.mul_one, List.take_succ_eq_append_getElem (by simpa using hms), List.take_set_of_le (Nat.le_refl _)]
    rw [Nat.mul_one] at ht
    rw [ht]
    simp

theorem went_same {w w' : World} {base tb root : Nat} {N : Net} {C : Cont} (h : TrAt w base tb root N) (t : Tch [] w w') (hc : cont N = C) : Went w base tb root N C w' N :=
  ⟨h.tch t, hc, Tof.of_tch t (by simp), fun _ hk => .inl hk⟩

/-- A text of holes that is none is told by an error, and nothing is done. -/
theorem fixBad_any (w : World) (base tb root : Nat) (N : Net) (hA : TrAt w base tb root N) (l : List Int) (a : Option Addr) (c : Nat)
    (tx : List UInt8) (hl : tx.length ≤ 1000000) (ht : Tabs w) (hsm : ∀ p ∈ splitB 44 (trimS tx), smallI p) (hp : parseP tx = none) (id op : Int) :
    Calls Tryz.prog 41 #[.pointer (some ⟨tb, 0, none⟩), .agg #[.slice a l.length c, .string (bs tx)], .int .u64 id, .int .i64 op] w fun e w' => (∃ t p, e = .returned (.iface t p)) ∧ Tch [] w w' := by
  have HPA := Lib.hid (fun (w' : World) (t : Tch [] w w') => parse_any tx w' hl (ht.tch t) hsm)
  rw [hp] at HPA
  have hct : w.cell? ⟨tb, 0, none⟩ = some (ptr root) := by rw [cell_of_row w tb 0 _ _ _ hA.top]; rfl
  have htb := lt_of_obj hA.top
  have HT0 := Lib.hid ((Tch.refl [] w).alloc (.cells #[.slice a l.length c, .string (bs tx)] 55))
  clear hA ht hsm hp hl
  go_enter Tryz.func41, Tryz.ntmps41
  go_wp2_with fail
  refine (HPA.out _ HT0.out).mono ?_
  rintro e w1 ⟨ia, ic, n', f', err, rfl, h1, h2, h3, h4⟩
  have HS1 := Lib.hid (HT0.out.trans h1.t)
  rcases h4 with ⟨h4, -⟩ | ⟨-, et, ep, rfl⟩
  · simp at h4
  clear h1 h2 h3 hct HPA HT0
  go_wp2_with fail
  refine (errNew_any _ _).mono ?_
  rintro e w2 ⟨t2, p2, rfl, ht2⟩
  have HS2 := Lib.hid (HS1.out.trans ht2)
  clear ht2
  go_wp2_with fail
  go_ret
  exact ⟨⟨_, _, rfl⟩, HS2.out⟩

set_option maxHeartbeats 4000000 in
theorem fixDel_any (w : World) (base tb root : Nat) (N : Net) (hA : TrAt w base tb root N) (l : List Int) (a : Option Addr) (c : Nat) (hP : By w l a c) (hX : ∀ ad, a = some ad → ¬ fpAt N [] ad.block) (hll : l.length ≤ 1000000)
    (tx : List UInt8) (hl : tx.length ≤ 1000000) (ht : Tabs w) (hsm : ∀ p ∈ splitB 44 (trimS tx), smallI p) (n : Nat) (f : Nat → Bool) (hp : parseP tx = some (n, f)) (id : Int) :
    Calls Tryz.prog 41 #[.pointer (some ⟨tb, 0, none⟩), .agg #[.slice a l.length c, .string (bs tx)], .int .u64 id, .int .i64 1] w fun e w' => e = .returned .nilIface ∧ ∃ N', Went w base tb root N (delC (cont N) (pathOf f l) id) w' N' := by
  have HPA := Lib.hid (fun (w' : World) (t : Tch [] w w') => parse_any tx w' hl (ht.tch t) hsm)
  rw [hp] at HPA
  obtain ⟨i0, hinf, hz0, hz1, hz2⟩ := info_parts Tryz.infoBool
  have HAP := Lib.hid (fun (w0 wr : World) (v : Value) (n : Nat) (xs : List Value) (h : Own w0 wr 4 1 v n xs) (hn : n ≤ 100000000) => own_app (ty := 36) Tryz.underlying36 hinf hz0 hz1 hz2 rfl (by decide) (by decide) #[.bool false] h hn rfl (by simp [Value.oneCell']))
  have HTA0 := Lib.hid hA
  have HBY := Lib.hid hP
  have HX := Lib.hid hX
  have HLL := Lib.hid hll
  have hlI : (l.length : Int) ≤ 1000000 := by omega
  have hct : w.cell? ⟨tb, 0, none⟩ = some (ptr root) := by rw [cell_of_row w tb 0 _ _ _ hA.top]; rfl
  have htb := lt_of_obj hA.top
  have HT0 := Lib.hid ((Tch.refl [] w).alloc (.cells #[.slice a l.length c, .string (bs tx)] 55))
  clear hinf hz0 hz1 hz2 hA hP hX hll ht hsm hp hl
  go_enter Tryz.func41, Tryz.ntmps41
  go_wp2_with fail
  refine (HPA.out _ HT0.out).mono ?_
  rintro e w1 ⟨ia, ic, n', f', err, rfl, h1, h2, h3, h4⟩
  rcases h4 with ⟨h4, rfl⟩ | ⟨h4, -⟩
  rotate_left
  · simp at h4
  simp only [Option.some.injEq, Prod.mk.injEq] at h4
  obtain ⟨rfl, rfl⟩ := h4
  have HO1 := Lib.hid h1
  have HN := Lib.hid h2
  have HTF := Lib.hid h3
  have HBX : Hid (∀ w' : World, Tch [] (w.alloc (.cells #[.slice a l.length c, .string (bs tx)] 55)) w' → w'.cell? ⟨w.heap.size, 0, none⟩ = some (.slice a l.length c)) := Lib.hid (fun w' t => by
    refine cell_tch (w := w.alloc (.cells #[.slice a l.length c, .string (bs tx)] 55)) ?_ t
    rw [cell_of_row _ _ _ _ _ _ (heap_alloc_new w _)]
    rfl)
  have hni : (n : Int) ≤ 10000 := by omega
  clear h1 h2 h3 hct HPA
  go_wp2_with fail
  go_loopg [10] (l.length - n) (fun nn s10 wz => ∃ (n' : Nat) (a' : Option Addr) (c' : Nat), n ≤ n' ∧ n' ≤ max n l.length ∧ nn = l.length - n' ∧ s10 = .slice a' n' c' ∧ Hid (Own (w.alloc (.cells #[.slice a l.length c, .string (bs tx)] 55)) wz 4 1 (.slice a' n' c') n' (bl n' f)))
  case atStart => exact ⟨n, ia, ic, Nat.le_refl _, Nat.le_max_left _ _, rfl, rfl, HO1.out⟩
  case round =>
    obtain ⟨n', a', c', hn1, hn2, rfl, rfl, HZ⟩ := hrel
    rename World => wz
    have hbx := HBX.out wz HZ.out.t
    have hn6 : (n' : Int) ≤ 1000000 := by omega
    by_cases hlt : n' < l.length
    · have hlt2 : (n' : Int) < (l.length : Int) := by omega
      have HLT := Lib.hid (⟨hlt, hn1⟩ : _ ∧ _)
      have HA1 := Lib.hid (HAP.out _ _ _ _ _ HZ.out (by omega))
      have HFN := Lib.hid (HTF.out n' hn1)
      clear hlt hn1 hn2 HZ
      go_wp2_with (at_builtin; refine wpList_append_run rfl (.tmp 37) (.tmp 38) 36 rfl (.slice a' n' c') (.slice (some ⟨wz.heap.size, 0, none⟩) 1 1) (by simp [Act.eval]) (by simp [Act.eval]) _ HA1.out ?_; rintro vv w7 ⟨g7, c7, rfl, n1, n2, n3, n4, n5⟩; have HN1 := Lib.hid n1; clear n1 n2 n3 n4 n5)
      go_roundg (l.length - (n' + 1))
      case rel =>
        obtain ⟨h1, h2⟩ := HLT.out
        exact ⟨n' + 1, _, _, by omega, by omega, rfl, rfl, by rw [bl_succ, HFN.out]; exact HN1.out⟩
      case measure => obtain ⟨h1, h2⟩ := HLT.out; omega
    · have hge : (l.length : Int) ≤ (n' : Int) := by omega
      have HGE := Lib.hid (show l.length ≤ n' by omega)
      have HTW := Lib.hid (HT0.out.trans HZ.out.t)
      have HTA := Lib.hid (HTA0.out.tch HTW.out)
      have HBY := Lib.hid (HBY.out.tch HTW.out)
      have HIC : Hid (0 < l.length → ∃ g, a' = some ⟨g, 0, none⟩ ∧ ¬ fpAt N [] g ∧ g < wz.heap.size ∧ ∀ j, j < l.length → wz.cell? ⟨g, j, none⟩ = some (.bool (f j))) := Lib.hid (fun h0 => by
        obtain ⟨g, rfl, h1, h2, h3⟩ := HZ.out.rowCell (by have := HGE.out; omega)
        have hgl := (HZ.out.row.lt g rfl).2
        refine ⟨g, rfl, fun hf => ?_, hgl, fun j hj => h2 j _ (by unfold bl; simp [show j < n' by have := HGE.out; omega])⟩
        have := (HTA0.out.tm.fp_lt hf).2
        simp at h1
        omega)
      obtain ⟨r0, hr0, hrb⟩ := HTA.out.tm.root
      have HR0 := Lib.hid hr0
      subst hrb
      have hgd : decide (n' < l.length) = false := decide_eq_false hlt
      clear hlt hn1 hn2 hr0 HZ HBX
      go_wp2_with fail
      clear hbx hge hgd hn6
      go_loopg [9, 43] l.length (fun nn s9 s43 wr => ∃ (k : Nat) (r : NRec), k ≤ l.length ∧ nn = l.length - k ∧ s9 = ptr r.blk ∧ s43 = .int .i64 k ∧ wr = wz ∧ Hid (N ((pathOf f l).take k) = some r))
      case atStart => exact ⟨0, r0, Nat.zero_le _, rfl, rfl, rfl, rfl, HR0.out⟩
      case round =>
        obtain ⟨k, r, hk, rfl, rfl, rfl, rfl, HW⟩ := hrel
        rename World => wr
        by_cases hlt : k < l.length
        · have HLT := Lib.hid hlt
          have hlt2 : (k : Int) < (l.length : Int) := by omega
          obtain ⟨gI, rfl, h1, h2, h3⟩ := HIC.out (by omega)
          have hci := h3 k hlt
          obtain ⟨ad, rfl⟩ : ∃ ad, a = some ad := by
            cases a with
            | some ad => exact ⟨ad, rfl⟩
            | none => have := (HBY.out.nil rfl).2; rw [this] at hlt; simp at hlt
          have hcb := (HBY.out.cell ad rfl k hlt).2
          have hnd := HTA.out.tm.node _ _ HW.out
          have hc0 : wr.cell? ⟨r.blk, 0, none⟩ = some (.map (some r.mb)) := by rw [cell_of_row wr r.blk 0 _ _ _ hnd.cells]; rfl
          have hc1 : wr.cell? ⟨r.blk, 1, none⟩ = some (ptrO (N ((pathOf f l).take k ++ [none]))) := by rw [cell_of_row wr r.blk 1 _ _ _ hnd.cells]; rfl
          have HPT := Lib.hid (pathOf_take f l hlt)
          have hkn : (k : Int) < (n' : Int) := by have := HGE.out; omega
          have HGONE : Hid (N ((pathOf f l).take (k + 1)) = none → Went w base tb r0.blk N (delC (cont N) (pathOf f l) id) wr N) := Lib.hid (fun hn => by
            refine went_same HTA0.out HTW.out (delC_none ?_ id).symm
            cases hC : cont N (pathOf f l) with
            | none => rfl
            | some ids => exact absurd (cont_none.2 hn) (HTA.out.tm.up.pre (List.take_prefix _ _) (by rw [hC]; simp)))
          clear h1 h2 h3 hk hlt
          cases hfk : f k with
          | true =>
            rw [hfk] at hci
            have HHOP := Lib.hid (show hopAt f l k = none by unfold hopAt; rw [hfk]; rfl)
            cases hN : N ((pathOf f l).take k ++ [none]) with
            | some ch =>
              rw [hN] at hc1
              simp only [ptrO] at hc1
              have HG := Lib.hid hN
              clear hnd hN hfk
              go_wp2_with fail
              go_roundg (l.length - (k + 1))
              case rel => exact ⟨k + 1, ch, by have := HLT.out; omega, rfl, rfl, by go_num, rfl, by rw [HPT.out, HHOP.out]; exact HG.out⟩
              case measure => have := HLT.out; omega
            | none =>
              rw [hN] at hc1
              simp only [ptrO] at hc1
              have HWE := Lib.hid (HGONE.out (by rw [HPT.out, HHOP.out]; exact hN))
              clear hnd hN hfk
              go_wp2_with fail
              go_ret
              exact ⟨rfl, N, HWE.out⟩
          | false =>
            rw [hfk] at hci
            have hhop : hopAt f l k = some (l.getD k 0) := by unfold hopAt; rw [hfk]; rfl
            generalize l.getD k 0 = bt at *
            have HHOP := Lib.hid hhop
            have hlk := hnd.map.lookup (P := Tryz.prog) (k := 5) (t := 84) (e := 71) Tryz.underlying5 Tryz.underlying84 (zero_ptr wr) bt
            rw [hnd.ch bt] at hlk
            cases hN : N ((pathOf f l).take k ++ [some bt]) with
            | some ch =>
              rw [hN] at hlk
              simp only [Option.map_some, Option.getD_some] at hlk
              have HG := Lib.hid hN
              clear hnd hN hfk hhop
              go_wp2_with fail
              go_roundg (l.length - (k + 1))
              case rel => exact ⟨k + 1, ch, by have := HLT.out; omega, rfl, rfl, by go_num, rfl, by rw [HPT.out, HHOP.out]; exact HG.out⟩
              case measure => have := HLT.out; omega
            | none =>
              rw [hN] at hlk
              simp only [Option.map_none, Option.getD_none] at hlk
              have HWE := Lib.hid (HGONE.out (by rw [HPT.out, HHOP.out]; exact hN))
              clear hnd hN hfk hhop
              go_wp2_with fail
              go_ret
              exact ⟨rfl, N, HWE.out⟩
        · obtain rfl : k = l.length := by omega
          have hG := HW.out
          rw [List.take_of_length_le (by rw [pathOf_len]; exact Nat.le_refl _)] at hG
          have HG := Lib.hid hG
          have hnd := HTA.out.tm.node _ _ hG
          have HND := Lib.hid hnd
          obtain ⟨av, cv, hv⟩ := ownsRow_slice hnd.row
          have hc2 : wr.cell? ⟨r.blk, 2, none⟩ = some r.v := by rw [cell_of_row wr r.blk 2 _ _ _ hnd.cells]; rfl
          have HC2 := Lib.hid hc2
          rw [hv] at hc2
          have HV := Lib.hid hv
          have hidl : (r.ids.length : Int) ≤ 10000000 := by have := hnd.len; omega
          clear hnd hv hk hlt hG
          go_wp2_with fail
          go_loopg [15, 108] r.ids.length (fun nn s15 s108 wz' => ∃ (k m : Nat), k ≤ r.ids.length ∧ nn = r.ids.length - k ∧ s15 = .slice av m cv ∧ s108 = .int .i64 k ∧ Hid (m ≤ k ∧ Tch r.v.ownBlock.toList wr wz' ∧ wz'.ownsRow base 26 1 (.slice av m cv) m (uV (flt id (r.ids.take k))) ∧ (∀ g j, r.v.ownBlock = some g → k ≤ j → j < r.ids.length → wz'.cell? ⟨g, j, none⟩ = some (.int .u64 (r.ids.getD j 0)))))
          case atStart =>
            refine ⟨0, 0, Nat.zero_le _, rfl, rfl, rfl, Nat.le_refl _, Tch.refl _ _, ?_, fun g j hg h1 h2 => ?_⟩
            · have hrow := HND.out.row
              rw [HV.out] at hrow
              rcases hrow.2 with ⟨h1, -⟩ | ⟨g, cap, cur, h1, h2, h3, h4, h5, h6, h7⟩
              · simp only [Value.slice.injEq] at h1
                obtain ⟨rfl, -, rfl⟩ := h1
                exact ⟨rfl, .inl ⟨rfl, rfl⟩⟩
              · simp only [Value.slice.injEq] at h1
                obtain ⟨rfl, -, rfl⟩ := h1
                exact ⟨rfl, .inr ⟨g, cv, cur, rfl, h2, h3, Nat.zero_le _, h5, h6, rfl⟩⟩
            · obtain ⟨g', cap, e1, -⟩ := ownsRow_value HND.out.row (by omega)
              have hrow := HND.out.row
              rw [e1] at hg hrow
              simp only [Value.ownBlock, Option.some.injEq] at hg
              subst hg
              have := (own_cell hrow (j := j) (u := .int .u64 (r.ids.getD j 0)) (by unfold uV; simp [List.getD, List.getElem?_eq_getElem h2])).2
              rw [addr_add0] at this
              exact this
          case round =>
            obtain ⟨k, m, hk, rfl, rfl, rfl, HZ⟩ := hrel
            rename World => wy
            by_cases hlt : k < r.ids.length
            · obtain ⟨g, cap, e1, hcap, hgl⟩ := ownsRow_value HND.out.row (by omega)
              have e2 := HV.out
              rw [e1] at e2
              simp only [Value.slice.injEq, true_and] at e2
              obtain ⟨rfl, rfl⟩ := e2
              have hlt2 : (k : Int) < (r.ids.length : Int) := by omega
              have hmk := HZ.out.1
              have hroom : m + 1 ≤ cap := by omega
              have hown := HZ.out.2.2.1
              have hck := HZ.out.2.2.2 g k (by rw [e1]; rfl) (Nat.le_refl _) hlt
              have hcm := HZ.out.2.2.2 g
              have hfl := flt_snoc id r.ids hlt
              have hrest : ∀ j, k + 1 ≤ j → j < r.ids.length → wy.cell? ⟨g, j, none⟩ = some (.int .u64 (r.ids.getD j 0)) := fun j h1 h2 => hcm j (by rw [e1]; rfl) (by omega) h2
              have HLT := Lib.hid hlt
              generalize r.ids.getD k 0 = x at hck hfl
              have HFL := Lib.hid hfl
              have HRE := Lib.hid hrest
              have HOB := Lib.hid (show r.v.ownBlock = some g by rw [e1]; rfl)
              have HMK := Lib.hid hmk
              by_cases hidx : id = x
              · have hb1 : (id != x) = false := by simpa using hidx
                have hb2 : (id == x) = true := by simpa using hidx
                have HIX := Lib.hid hidx
                clear hlt hmk hroom hown hcm hfl hrest hidx e1 hcap hk
                go_wp2_with fail
                go_roundg (r.ids.length - (k + 1))
                case rel =>
                  refine ⟨k + 1, m, HLT.out, rfl, rfl, by go_num, by have := HMK.out; omega, HZ.out.2.1, ?_, fun g' j hg h1 h2 => ?_⟩
                  · rw [HFL.out, if_pos HIX.out, List.append_nil]; exact HZ.out.2.2.1
                  · obtain rfl : g = g' := Option.some.inj (HOB.out.symm.trans hg)
                    exact HRE.out j h1 h2
                case measure => have := HLT.out; omega
              · have hb1 : (id != x) = true := by simpa using hidx
                have hb2 : (id == x) = false := by simpa using hidx
                have HIX := Lib.hid hidx
                obtain ⟨cur, hcur⟩ := ownsRow_block hown (g := g) rfl
                have hcs : ∃ u, wy.cell? ⟨g, m, none⟩ = some u := by
                  rcases hown.2 with ⟨h1, -⟩ | ⟨g', cap', cur', h1, -, h3, -, -, h6, -⟩
                  · simp at h1
                  · simp only [Value.slice.injEq, Option.some.injEq, Addr.mk.injEq, and_true, true_and] at h1
                    obtain ⟨rfl, rfl⟩ := h1
                    exact ⟨_, by rw [cell_of_row wy g m cur' _ _ h3, Array.getElem?_eq_getElem (by omega)]⟩
                obtain ⟨u, hu⟩ := hcs
                have hu2 : (wy.alloc (.cells #[.int .u64 x] 26)).cell? ⟨g, m, none⟩ = some u := cell_tch hu ((Tch.refl _ _).alloc _)
                have hf2 : (wy.alloc (.cells #[.int .u64 x] 26)).frozen? ⟨g, m, none⟩ = false := frozen_of (((Tch.refl [] wy).alloc _).obj hcur (by simp))
                have HPUT := Lib.hid (own_put (u := .int .u64 x) (hown.alloc (.cells #[.int .u64 x] 26)) (by omega))
                have HTT : Hid (Tch r.v.ownBlock.toList wr ((wy.alloc (.cells #[.int .u64 x] 26)).setCell ⟨g, m, none⟩ (.int .u64 x))) := Lib.hid ((HZ.out.2.1.alloc _).setCell (fun _ => by rw [HOB.out]; simp) _)
                have HOLD : Hid (∀ j, k + 1 ≤ j → j < r.ids.length → ((wy.alloc (.cells #[.int .u64 x] 26)).setCell ⟨g, m, none⟩ (.int .u64 x)).cell? ⟨g, j, none⟩ = some (.int .u64 (r.ids.getD j 0))) := Lib.hid (fun j h1 h2 => by
                  have h3 : (wy.alloc (.cells #[.int .u64 x] 26)).heap[g]? = some (.cells cur 26 (0, 0)) := ((Tch.refl [] wy).alloc _).obj hcur (by simp)
                  have h4 := hrest j h1 h2
                  rw [cell_of_row wy g j cur _ _ hcur] at h4
                  rw [cell_of_row _ g j _ _ _ (heap_setCell_same _ g m cur _ (.int .u64 x) h3), Array.getElem?_setIfInBounds_ne (by omega)]
                  exact h4)
                clear hlt hmk hown hcm hfl hrest hidx e1 hcap hk hcur hu
                go_wp2_with fail
                go_roundg (r.ids.length - (k + 1))
                case rel =>
                  refine ⟨k + 1, m + 1, HLT.out, rfl, rfl, by go_num, by have := HMK.out; omega, HTT.out, ?_, fun g' j hg h1 h2 => ?_⟩
                  · rw [HFL.out, if_neg HIX.out]
                    have := HPUT.out
                    unfold uV at this ⊢
                    rw [List.map_append]
                    exact this
                  · obtain rfl : g = g' := Option.some.inj (HOB.out.symm.trans hg)
                    exact HOLD.out j h1 h2
                case measure => have := HLT.out; omega
            · obtain rfl : k = r.ids.length := by omega
              have hz := HZ.out
              rw [List.take_length] at hz
              obtain ⟨k1, k2, k3⟩ := HND.out.kinds HND.out
              have hb : r.blk ∉ r.v.ownBlock.toList := by simpa [Option.mem_toList] using k2
              have hcx : wy.cell? ⟨r.blk, 2, none⟩ = some r.v := by
                rw [hz.2.1.cell (World.block_lt_of_cell? wr _ HC2.out) hb]; exact HC2.out
              have hfx := frozen_of (j := 2) (hz.2.1.obj HND.out.cells hb)
              have hml : m = (flt id r.ids).length := by have := hz.2.2.1.1; unfold uV at this; simp at this; omega
              have hown := hz.2.2.1
              rw [hml] at hown
              obtain ⟨N', hT⟩ := turned_of (l := flt id r.ids) HTA.out.tm HG.out hz.2.1 (Nat.le_trans (List.length_filter_le _ _) HND.out.len) hown (fun g hg => by
                left
                rw [HV.out]
                cases av with
                | none => simp [Value.ownBlock] at hg
                | some ad => simpa [Value.ownBlock] using hg)
              rw [← hml] at hT
              have HWX : Hid (Went w base tb r0.blk N (delC (cont N) (pathOf f l) id) (wy.setCell ⟨r.blk, 2, none⟩ (.slice av m cv)) N') := Lib.hid (by
                have t1 : Tof (fpAt N []) wr (wy.setCell ⟨r.blk, 2, none⟩ (.slice av m cv)) := hT.t.mono (fun i _ hi => ⟨pathOf f l, r, HG.out, hi⟩)
                have t2 : Tof (fpAt N []) w (wy.setCell ⟨r.blk, 2, none⟩ (.slice av m cv)) := (Tof.of_tch (F := fpAt N []) HTW.out (by simp)).trans t1 (fun _ _ h => h)
                refine ⟨⟨hT.tm, t2.obj HTA0.out.top HTA0.out.free, HTA0.out.lo⟩, ?_, t2, fun k hk => (hT.fp k hk).imp (fun h => h) (fun h => Nat.le_trans HTW.out.size h)⟩
                rw [hT.cont]
                funext q
                unfold delC
                by_cases e : q = pathOf f l
                · rw [if_pos e, if_pos e, e, cont_some.2 ⟨r, HG.out, rfl⟩]; rfl
                · rw [if_neg e, if_neg e])
              rw [HV.out] at hcx
              clear hz k1 k2 k3 hb hml hown hT hlt hk
              go_wp2_with fail
              go_ret
              exact ⟨rfl, N', HWX.out⟩

end Go.Proofs.YtcolffccbmpndaaGreatDoor
