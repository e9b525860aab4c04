/- (*Trie).get, walked. (printed by wip/gen/genget.py) -/
import Derived.Test.YtcolffccbmpndaaGreatDoorTrG
namespace Go.Proofs.YtcolffccbmpndaaGreatDoor
open Go.RowKit Go.Deep
set_option maxRecDepth 100000

theorem run_tail {n c : Nat} {ad ad' : Addr} (_ : n + 1 ≤ c) (had : ad' = if 1 = c then ad else ad.add 1) (W : World) : (Instr.slice 23 (.slice (some ad) (n + 1) c) (some (.int .i64 1)) none none).run Tryz.prog W = .ok (.slice (some ad') n (c - 1)) W := by
  rw [run_slice_l (ht := by rw [Tryz.underlying23]; rfl) (h0 := by omega) (h1 := by omega)]
  have hs : (sizeOf (Tryz.prog.elem 23)).run Tryz.prog W = .ok 1 W := Tryz.sizeOf5 W
  rw [hs]
  simp only [Result.andThen, sliced]
  rw [had]
  by_cases e : 1 = c
  · simp [← e]
  · have e2 : ¬ c = 1 := fun h => e h.symm
    simp [e, e2]

/-- What a call of get tells, for a key. -/
def GetSays (key : List Int) : Prop := ∀ (w : World) (base root : Nat) (N : Net), TM w base root N → ∀ (q : Path) (r : NRec), N q = some r → ∀ (tv : Value) (a : Option Addr) (c : Nat), By w key a c → key.length ≤ 1000000 →
  Calls Tryz.prog 45 #[tv, ptr r.blk, .slice a key.length c] w (Got (Found (cont N) q key) w)

set_option maxHeartbeats 8000000 in
theorem get_step (key0 : List Int) (IH : ∀ x k, key0 = x :: k → GetSays k) : GetSays key0 := by
  intro w base root N h q r hq tv a c hk hlen
  have HND := Lib.hid (fun w' (t : Tch [] w w') => (h.tch t).node q r hq)
  have hnd := h.node q r hq
  obtain ⟨av, cv, hv⟩ := ownsRow_slice hnd.row
  have hc2 : w.cell? ⟨r.blk, 2, none⟩ = some r.v := by rw [cell_of_row w r.blk 2 _ _ _ hnd.cells]; rfl
  rw [hv] at hc2
  have HIC : Hid (0 < r.ids.length → ∃ g, av = some ⟨g, 0, none⟩ ∧ g < w.heap.size ∧ ∀ j, j < r.ids.length → w.cell? ⟨g, j, none⟩ = some (.int .u64 (r.ids.getD j 0))) := Lib.hid (fun h0 => by
    obtain ⟨g, cap, e1, -, e2⟩ := ownsRow_value hnd.row h0
    have hrow := hnd.row
    rw [e1] at hv hrow
    simp only [Value.slice.injEq, true_and] at hv
    refine ⟨g, hv.1.symm, e2, fun j hj => ?_⟩
    have := (own_cell hrow (j := j) (u := .int .u64 (r.ids.getD j 0)) (by unfold uV; simp [List.getD, List.getElem?_eq_getElem hj])).2
    rw [addr_add0] at this
    exact this)
  have HIDS := Lib.hid (cont_some.2 ⟨r, hq, rfl⟩)
  have HUP := Lib.hid h.up
  have HTM := Lib.hid h
  have HQ := Lib.hid hq
  have HBY := Lib.hid hk
  have HLEN := Lib.hid hlen
  have hidl : (r.ids.length : Int) ≤ 10000000 := by have := hnd.len; omega
  have hkl : (key0.length : Int) ≤ 1000000 := by omega
  have hkc : key0.length ≤ c := hk.cap
  have HHA := Lib.hid IH
  have hmm := @run_makeMap Tryz.prog
  have HM0 := Lib.hid (RMap.made .u64 w)
  have HT1 := Lib.hid ((Tch.refl [] w).alloc (.map #[] 0))
  have hc2' : (w.alloc (.map #[] 0)).cell? ⟨r.blk, 2, none⟩ = some (.slice av r.ids.length cv) := cell_tch hc2 HT1.out
  clear h hq hk hlen IH hnd hv
  go_enter Tryz.func45, Tryz.ntmps45
  go_wp2_with (first | (go_at_call 40; refine (assertTrue_any _).mono ?_; rintro e w' ⟨rfl, hw⟩; rw [hw]; clear hw))
  clear hmm hc2 hc2'
  go_loopg [24] r.ids.length (fun nn s24 wz => ∃ (k : Nat) (L : List (Int × Value)), k ≤ r.ids.length ∧ nn = r.ids.length - k ∧ s24 = .int .i64 k ∧ Hid (RMap .u64 wz w.heap.size L ∧ (∀ x, x ∈ keysL L ↔ x ∈ r.ids.take k) ∧ Tch [] w wz))
  case atStart => exact ⟨0, [], Nat.zero_le _, rfl, rfl, HM0.out, fun x => by simp [keysL], HT1.out⟩
  case round =>
    obtain ⟨k, L, hk, rfl, rfl, HZ⟩ := hrel
    rename World => wz
    by_cases hlt : k < r.ids.length
    · obtain ⟨g, rfl, hg, hcs⟩ := HIC.out (by omega)
      have hck := cell_tch (hcs k hlt) HZ.out.2.2
      have hlt2 : (k : Int) < (r.ids.length : Int) := by omega
      have HTK : Hid (∀ x, x ∈ r.ids.take (k + 1) ↔ x ∈ r.ids.take k ∨ x = r.ids.getD k 0) := Lib.hid (fun x => by
        rw [List.take_succ_eq_append_getElem hlt, List.mem_append, List.mem_singleton, show r.ids.getD k 0 = r.ids[k] by simp [List.getD, List.getElem?_eq_getElem hlt]])
      generalize r.ids.getD k 0 = idk at *
      have HU := Lib.hid (HZ.out.1.update (P := Tryz.prog) (k := 26) (t := 59) (e := 101) Tryz.underlying26 Tryz.underlying59 idk (.agg #[]))
      have HLT := Lib.hid hlt
      clear hlt hk hcs
      go_wp2_with (at_mapUpdate; refine wpList_mapUpdate_run rfl _ _ _ 59 rfl _ _ _ rfl rfl rfl _ HU.out ?_; rintro w7 ⟨q1, q2⟩; have HQ1 := Lib.hid q1; have HQ2 := Lib.hid q2; clear q1 q2)
      go_roundg (r.ids.length - (k + 1))
      case rel =>
        refine ⟨k + 1, _, HLT.out, rfl, by go_num, HQ1.out, fun x => ?_, HZ.out.2.2.then HQ2.out (fun i hi hm => by have := List.mem_singleton.1 hm; omega)⟩
        rw [keysL_put, HTK.out x, HZ.out.2.1 x]
      case measure => have := HLT.out; omega
    · obtain rfl : k = r.ids.length := by omega
      have HML : Hid (RMap .u64 wz w.heap.size L ∧ ∀ x, x ∈ keysL L ↔ x ∈ r.ids) := Lib.hid ⟨HZ.out.1, fun x => by rw [HZ.out.2.1 x, List.take_length]⟩
      have HTZ := Lib.hid HZ.out.2.2
      clear hlt hk HZ
      cases key0 with
      | nil =>
        clear hkc
        go_wp2_with fail
        go_ret
        exact ⟨w.heap.size, L, rfl, HML.out.1, fun x => by rw [HML.out.2 x, found_nil, HIDS.out]; simp, HTZ.out, Nat.le_refl _⟩
      | cons x key =>
        obtain ⟨ad, rfl⟩ : ∃ ad, a = some ad := by
          cases a with
          | some ad => exact ⟨ad, rfl⟩
          | none => have := (HBY.out.nil rfl).2; simp at this
        have HIH : Hid (∀ s ch, N (q ++ [s]) = some ch → ∀ w', Tch [] w w' → Calls Tryz.prog 45 #[tv, ptr ch.blk, .slice (some (if 1 = c then ad else ad.add 1)) key.length (c - 1)] w' (Got (Found (cont N) (q ++ [s]) key) w')) := Lib.hid (fun s ch hs w' t => HHA.out x key rfl w' base root N (HTM.out.tch t) (q ++ [s]) ch hs tv _ _ (HBY.out.tail.tch t) (by have := HLEN.out; simp at this; omega))
        have HKX : Hid (∀ w', Tch [] w w' → w'.cell? ad = some (.int .u8 x)) := Lib.hid (fun w' t => by
          have := cell_tch (HBY.out.cell ad rfl 0 (by simp)).2 t
          simpa [Addr.add] using this)
        have HFOUND : Hid (∀ y, Found (cont N) q (x :: key) y ↔ y ∈ r.ids ∨ Found (cont N) (q ++ [none]) key y ∨ Found (cont N) (q ++ [some x]) key y) := Lib.hid (fun y => by rw [found_cons, HIDS.out]; simp)
        have hnd := HND.out wz HTZ.out
        have hc1 : wz.cell? ⟨r.blk, 1, none⟩ = some (ptrO (N (q ++ [none]))) := by rw [cell_of_row wz r.blk 1 _ _ _ hnd.cells]; rfl
        have hk1 : ((key.length : Int) + 1 == 0) = false := beq_eq_false_iff_ne.2 (by omega)
        have hk2 : (key.length : Int) ≤ 1000000 := by simp at hkl; omega
        have hk3 : key.length + 1 ≤ c := by simpa using hkc
        simp only [List.length_cons] at hkl hkc ⊢
        clear HHA hnd
        obtain ⟨ad', had⟩ : ∃ ad', ad' = if 1 = c then ad else ad.add 1 := ⟨_, rfl⟩
        rw [← had] at HIH
        have hsl : ∀ W : World, (Instr.slice 23 (.slice (some ad) (key.length + 1) c) (some (.int .i64 1)) none none).run Tryz.prog W = .ok (.slice (some ad') key.length (c - 1)) W := run_tail hk3 had
        clear had
        have hone : True := trivial
        all_goals
          cases hN : N (q ++ [none]) with
          | none =>
            rw [hN] at hc1
            simp only [ptrO] at hc1
            have HMA : Hid (∃ L, RMap .u64 wz w.heap.size L ∧ ∀ y, y ∈ keysL L ↔ y ∈ r.ids ∨ Found (cont N) (q ++ [none]) key y) := Lib.hid ⟨L, HML.out.1, fun y => by
              rw [HML.out.2 y]
              have := found_none HUP.out (cont_none.2 hN) key y
              simp [this]⟩
            clear hN
            have hnd := HND.out wz HTZ.out
            have hc0 : wz.cell? ⟨r.blk, 0, none⟩ = some (.map (some r.mb)) := by rw [cell_of_row wz r.blk 0 _ _ _ hnd.cells]; rfl
            have hkx := HKX.out wz HTZ.out
            have hlk := fun n => (RMap.drewN hnd.map n).lookup (P := Tryz.prog) (k := 5) (t := 84) (e := 71) Tryz.underlying5 Tryz.underlying84 (zero_ptr (wz.drewN n)) x
            rw [hnd.ch x] at hlk
            cases hN : N (q ++ [some x]) with
            | none =>
              rw [hN] at hlk
              simp only [Option.map_none, Option.getD_none] at hlk
              have HNF := Lib.hid (fun y => found_none HUP.out (cont_none.2 hN) key y)
              clear hnd hN
              go_wp2_with fail
              go_quiet (fail)
              go_wp2_with fail
              go_ret
              obtain ⟨L, g1, g2⟩ := HMA.out
              exact ⟨w.heap.size, L, rfl, g1, fun y => by rw [g2 y, HFOUND.out y]; simp [HNF.out y], HTZ.out.drewN _, Nat.le_refl _⟩
            | some ch =>
              rw [hN] at hlk
              simp only [Option.map_some, Option.getD_some] at hlk
              have HC2 := Lib.hid (fun w' (t : Tch [] w w') => HIH.out (some x) ch hN w' t)
              clear hnd hN
              go_wp2_with fail
              go_quiet (fail)
              go_wp2_with fail
              refine (HC2.out _ (HTZ.out.drewN _)).mono ?_
              rintro e wy ⟨mB, LB, rfl, k1, k2, k3, k4⟩
              have HRB := Lib.hid k1
              have HKB := Lib.hid k2
              have HMB : Hid (∃ L, RMap .u64 wy w.heap.size L ∧ ∀ y, y ∈ keysL L ↔ (y ∈ r.ids ∨ Found (cont N) (q ++ [none]) key y)) := Lib.hid (by
                obtain ⟨L, g1, g2⟩ := HMA.out
                exact ⟨L, (RMap.drewN g1 _).tch k3 (by simp), g2⟩)
              have HTXB := Lib.hid ((HTZ.out.drewN _).trans k3)
              have HLMB : Hid (w.heap.size < mB) := Lib.hid (by obtain ⟨L, g1, -⟩ := HMA.out; have := g1.lt; simp at k4; omega)
              have HLTB : Hid (w.heap.size < wy.heap.size) := Lib.hid (by have := k1.lt; have := HLMB.out; omega)
              clear k1 k2 k3 k4 hlk hc0 hkx
              have hrg : ∃ vv w', (Instr.range 59 (.map (some mB))).run Tryz.prog wy = .ok vv w' ∧ (vv = .pointer (some ⟨wy.heap.size, 0, none⟩) ∧ RIter .u64 w' wy.heap.size mB LB (LB.map Prod.fst) ∧ Tch [] wy w') := by
                obtain ⟨w', a1, a2, a3, -⟩ := HRB.out.range (P := Tryz.prog) (t := 59) (k := 26) (e := 101) Tryz.underlying59
                exact ⟨_, w', a1, rfl, a2, a3⟩
              have HRGB := Lib.hid hrg
              clear hrg
              go_wp2_with (at_range; refine wpList_range_run rfl _ 59 rfl _ rfl _ HRGB.out ?_; rintro vv wiB ⟨rfl, hitB, htB⟩; go_frame)
              have HITB := Lib.hid hitB
              have HTIB := Lib.hid htB
              clear hitB htB
              go_loopg [] LB.length (fun nn wr => ∃ (left : List Int) (L : List (Int × Value)), nn = left.length ∧ Hid (RIter .u64 wr wy.heap.size mB LB left ∧ RMap .u64 wr w.heap.size L ∧ (∀ y, y ∈ keysL L ↔ (y ∈ r.ids ∨ Found (cont N) (q ++ [none]) key y) ∨ (y ∈ keysL LB ∧ y ∉ left)) ∧ Tch [] w wr))
              case atStart =>
                obtain ⟨L, g1, g2⟩ := HMB.out
                refine ⟨LB.map Prod.fst, L, by simp, HITB.out, g1.tch HTIB.out (by simp), fun y => ?_, HTXB.out.trans HTIB.out⟩
                rw [g2 y]
                constructor
                · exact .inl
                · rintro (h | ⟨h1, h2⟩)
                  · exact h
                  · exact absurd h1 h2
              case round =>
                obtain ⟨left, L, rfl, HZ⟩ := hrel
                rename World => wr
                have hrb := HZ.out.1.ne_map
                rcases HZ.out.1.next (P := Tryz.prog) hrb 0 with ⟨hl, hrun⟩ | ⟨y, vv, w6, hk, hat, hrun, hit6, ht6, hsz6, hent⟩
                · have HFINB : Hid (∃ L, RMap .u64 wr w.heap.size L ∧ ∀ y, y ∈ keysL L ↔ (y ∈ r.ids ∨ Found (cont N) (q ++ [none]) key y) ∨ y ∈ keysL LB) := Lib.hid ⟨L, HZ.out.2.1, fun y => by rw [HZ.out.2.2.1 y, hl]; simp⟩
                  have HTFB := Lib.hid HZ.out.2.2.2
                  clear hl hrb HZ
                  go_wp2_with fail
                  go_ret
                  obtain ⟨L, g1, g2⟩ := HFINB.out
                  exact ⟨w.heap.size, L, rfl, g1, fun y => by rw [g2 y, HFOUND.out y, HKB.out y, or_assoc], HTFB.out, Nat.le_refl _⟩
                · have hyk : y ∈ keysL LB := by
                    unfold at? at hat
                    cases hf : LB.find? (fun p => p.1 == y) with
                    | none => rw [hf] at hat; simp at hat
                    | some p => exact List.mem_map.2 ⟨p, List.mem_of_find?_eq_some hf, by simpa using List.find?_some hf⟩
                  have hmne : w.heap.size ∉ [wy.heap.size] := by have := HLTB.out; simp; omega
                  have hmap6 := HZ.out.2.1.tch ht6 hmne
                  have T6 : Tch [] w w6 := HZ.out.2.2.2.then ht6 (fun i hi hm => by have := List.mem_singleton.1 hm; have := HLTB.out; omega)
                  have hll : (left.filter (· != y)).length < left.length := by
                    rw [← Nat.not_le]
                    intro hge
                    have := List.filter_sublist.eq_of_length_le hge
                    have hy2 : y ∈ left.filter (· != y) := by rw [this]; exact hk
                    simp at hy2
                  have HU := Lib.hid (hmap6.update (P := Tryz.prog) (k := 26) (t := 59) (e := 101) Tryz.underlying26 Tryz.underlying59 y (.agg #[]))
                  have HIT6 := Lib.hid hit6
                  have HY := Lib.hid (⟨hk, hyk, hll⟩ : _ ∧ _ ∧ _)
                  have HT6 := Lib.hid T6
                  clear hk hyk hll hit6 T6 hmap6 hat hmne ht6 hsz6 hrb
                  go_wp2_with (at_mapUpdate; refine wpList_mapUpdate_run rfl _ _ _ 59 rfl _ _ _ rfl rfl rfl _ HU.out ?_; rintro w7 ⟨q1, q2⟩; have HQ1 := Lib.hid q1; have HQ2 := Lib.hid q2; clear q1 q2)
                  go_roundg (left.filter (· != y)).length
                  case rel =>
                    have hne : wy.heap.size ∉ [w.heap.size] := by have := HLTB.out; simp; omega
                    have hne2 : mB ∉ [w.heap.size] := by have := HLMB.out; simp; omega
                    refine ⟨left.filter (· != y), _, rfl, HIT6.out.tch HQ2.out hne hne2, HQ1.out, fun z => ?_, HT6.out.then HQ2.out (fun i hi hm => by have := List.mem_singleton.1 hm; omega)⟩
                    rw [keysL_put, HZ.out.2.2.1 z]
                    by_cases e : z = y
                    · subst e
                      simp [HY.out.2.1]
                    · simp [e]
                  case measure => exact HY.out.2.2
          | some ch =>
            rw [hN] at hc1
            simp only [ptrO] at hc1
            have HC1 := Lib.hid (fun w' (t : Tch [] w w') => HIH.out none ch hN w' t)
            have HCE := Lib.hid (fun w' (t : Tch [] wz w') => cell_tch hc1 t)
            clear hN
            go_wp2_with fail
            go_region_held3 (fun w' => w'.cell? ⟨r.blk, 1, none⟩ = some (ptr ch.blk)) (go_keep)
              (first
                | (go_at_call 45; (with_reducible refine (HC1.out _ (HTZ.out.trans ?_)).mono ?_); (repeat (first | exact Tch.refl _ _ | exact Hid.out (by assumption) | refine Tch.drew ?_)); rintro e wx ⟨mA, LA, rfl, k1, k2, k3, k4⟩
                   have HX5 : Hid (Tch [] wz wx) := Tch.trans (by repeat (first | exact Tch.refl _ _ | exact Hid.out (by assumption) | refine Tch.drew ?_)) k3
                   have HRA := Lib.hid k1
                   have HKA := Lib.hid k2
                   have HKM := Lib.hid k4
                   clear k1 k2 k3 k4 hc1
                   have hc1 := HCE.out _ HX5.out))
            have HMA : Hid (∃ L, RMap .u64 wx w.heap.size L ∧ ∀ y, y ∈ keysL L ↔ y ∈ r.ids) := Lib.hid ⟨L, HML.out.1.tch HX5.out (by simp), HML.out.2⟩
            have HTXA := Lib.hid (HTZ.out.trans HX5.out)
            have HLMA : Hid (w.heap.size < mA) := Lib.hid (by have := HML.out.1.lt; have := HKM.out; simp at this; omega)
            have HLTA : Hid (w.heap.size < wx.heap.size) := Lib.hid (by have := HRA.out.lt; have := HLMA.out; omega)
            clear hc1
            have hrg : ∃ vv w', (Instr.range 59 (.map (some mA))).run Tryz.prog wx = .ok vv w' ∧ (vv = .pointer (some ⟨wx.heap.size, 0, none⟩) ∧ RIter .u64 w' wx.heap.size mA LA (LA.map Prod.fst) ∧ Tch [] wx w') := by
              obtain ⟨w', a1, a2, a3, -⟩ := HRA.out.range (P := Tryz.prog) (t := 59) (k := 26) (e := 101) Tryz.underlying59
              exact ⟨_, w', a1, rfl, a2, a3⟩
            have HRGA := Lib.hid hrg
            clear hrg
            go_wp2_with (at_range; refine wpList_range_run rfl _ 59 rfl _ rfl _ HRGA.out ?_; rintro vv wiA ⟨rfl, hitA, htA⟩; go_frame)
            have HITA := Lib.hid hitA
            have HTIA := Lib.hid htA
            clear hitA htA
            go_loopg [] LA.length (fun nn wr => ∃ (left : List Int) (L : List (Int × Value)), nn = left.length ∧ Hid (RIter .u64 wr wx.heap.size mA LA left ∧ RMap .u64 wr w.heap.size L ∧ (∀ y, y ∈ keysL L ↔ y ∈ r.ids ∨ (y ∈ keysL LA ∧ y ∉ left)) ∧ Tch [] w wr))
            case atStart =>
              obtain ⟨L, g1, g2⟩ := HMA.out
              refine ⟨LA.map Prod.fst, L, by simp, HITA.out, g1.tch HTIA.out (by simp), fun y => ?_, HTXA.out.trans HTIA.out⟩
              rw [g2 y]
              constructor
              · exact .inl
              · rintro (h | ⟨h1, h2⟩)
                · exact h
                · exact absurd h1 h2
            case round =>
              obtain ⟨left, L, rfl, HZ⟩ := hrel
              rename World => wr
              have hrb := HZ.out.1.ne_map
              rcases HZ.out.1.next (P := Tryz.prog) hrb 0 with ⟨hl, hrun⟩ | ⟨y, vv, w6, hk, hat, hrun, hit6, ht6, hsz6, hent⟩
              · have HFINA : Hid (∃ L, RMap .u64 wr w.heap.size L ∧ ∀ y, y ∈ keysL L ↔ y ∈ r.ids ∨ y ∈ keysL LA) := Lib.hid ⟨L, HZ.out.2.1, fun y => by rw [HZ.out.2.2.1 y, hl]; simp⟩
                have HTFA := Lib.hid HZ.out.2.2.2
                clear hl hrb HZ
                have HMC : Hid (∃ L, RMap .u64 wr w.heap.size L ∧ ∀ y, y ∈ keysL L ↔ (y ∈ r.ids ∨ Found (cont N) (q ++ [none]) key y)) := Lib.hid (by
                  obtain ⟨L, g1, g2⟩ := HFINA.out
                  exact ⟨L, g1, fun y => by rw [g2 y, HKA.out y]⟩)
                have hnd := HND.out wr HTFA.out
                have hc0 : wr.cell? ⟨r.blk, 0, none⟩ = some (.map (some r.mb)) := by rw [cell_of_row wr r.blk 0 _ _ _ hnd.cells]; rfl
                have hkx := HKX.out wr HTFA.out
                have hlk := fun n => (RMap.drewN hnd.map n).lookup (P := Tryz.prog) (k := 5) (t := 84) (e := 71) Tryz.underlying5 Tryz.underlying84 (zero_ptr (wr.drewN n)) x
                rw [hnd.ch x] at hlk
                cases hN : N (q ++ [some x]) with
                | none =>
                  rw [hN] at hlk
                  simp only [Option.map_none, Option.getD_none] at hlk
                  have HNF := Lib.hid (fun y => found_none HUP.out (cont_none.2 hN) key y)
                  clear hnd hN
                  go_wp2_with fail
                  go_quiet (fail)
                  go_wp2_with fail
                  go_ret
                  obtain ⟨L, g1, g2⟩ := HMC.out
                  exact ⟨w.heap.size, L, rfl, g1, fun y => by rw [g2 y, HFOUND.out y]; simp [HNF.out y], HTFA.out.drewN _, Nat.le_refl _⟩
                | some ch =>
                  rw [hN] at hlk
                  simp only [Option.map_some, Option.getD_some] at hlk
                  have HC2 := Lib.hid (fun w' (t : Tch [] w w') => HIH.out (some x) ch hN w' t)
                  clear hnd hN
                  go_wp2_with fail
                  go_quiet (fail)
                  go_wp2_with fail
                  refine (HC2.out _ (HTFA.out.drewN _)).mono ?_
                  rintro e wy ⟨mB, LB, rfl, k1, k2, k3, k4⟩
                  have HRB := Lib.hid k1
                  have HKB := Lib.hid k2
                  have HMB : Hid (∃ L, RMap .u64 wy w.heap.size L ∧ ∀ y, y ∈ keysL L ↔ (y ∈ r.ids ∨ Found (cont N) (q ++ [none]) key y)) := Lib.hid (by
                    obtain ⟨L, g1, g2⟩ := HMC.out
                    exact ⟨L, (RMap.drewN g1 _).tch k3 (by simp), g2⟩)
                  have HTXB := Lib.hid ((HTFA.out.drewN _).trans k3)
                  have HLMB : Hid (w.heap.size < mB) := Lib.hid (by obtain ⟨L, g1, -⟩ := HMC.out; have := g1.lt; simp at k4; omega)
                  have HLTB : Hid (w.heap.size < wy.heap.size) := Lib.hid (by have := k1.lt; have := HLMB.out; omega)
                  clear k1 k2 k3 k4 hlk hc0 hkx
                  have hrg : ∃ vv w', (Instr.range 59 (.map (some mB))).run Tryz.prog wy = .ok vv w' ∧ (vv = .pointer (some ⟨wy.heap.size, 0, none⟩) ∧ RIter .u64 w' wy.heap.size mB LB (LB.map Prod.fst) ∧ Tch [] wy w') := by
                    obtain ⟨w', a1, a2, a3, -⟩ := HRB.out.range (P := Tryz.prog) (t := 59) (k := 26) (e := 101) Tryz.underlying59
                    exact ⟨_, w', a1, rfl, a2, a3⟩
                  have HRGB := Lib.hid hrg
                  clear hrg
                  go_wp2_with (at_range; refine wpList_range_run rfl _ 59 rfl _ rfl _ HRGB.out ?_; rintro vv wiB ⟨rfl, hitB, htB⟩; go_frame)
                  have HITB := Lib.hid hitB
                  have HTIB := Lib.hid htB
                  clear hitB htB
                  go_loopg [] LB.length (fun nn wr => ∃ (left : List Int) (L : List (Int × Value)), nn = left.length ∧ Hid (RIter .u64 wr wy.heap.size mB LB left ∧ RMap .u64 wr w.heap.size L ∧ (∀ y, y ∈ keysL L ↔ (y ∈ r.ids ∨ Found (cont N) (q ++ [none]) key y) ∨ (y ∈ keysL LB ∧ y ∉ left)) ∧ Tch [] w wr))
                  case atStart =>
                    obtain ⟨L, g1, g2⟩ := HMB.out
                    refine ⟨LB.map Prod.fst, L, by simp, HITB.out, g1.tch HTIB.out (by simp), fun y => ?_, HTXB.out.trans HTIB.out⟩
                    rw [g2 y]
                    constructor
                    · exact .inl
                    · rintro (h | ⟨h1, h2⟩)
                      · exact h
                      · exact absurd h1 h2
                  case round =>
                    obtain ⟨left, L, rfl, HZ⟩ := hrel
                    rename World => wr
                    have hrb := HZ.out.1.ne_map
                    rcases HZ.out.1.next (P := Tryz.prog) hrb 0 with ⟨hl, hrun⟩ | ⟨y, vv, w6, hk, hat, hrun, hit6, ht6, hsz6, hent⟩
                    · have HFINB : Hid (∃ L, RMap .u64 wr w.heap.size L ∧ ∀ y, y ∈ keysL L ↔ (y ∈ r.ids ∨ Found (cont N) (q ++ [none]) key y) ∨ y ∈ keysL LB) := Lib.hid ⟨L, HZ.out.2.1, fun y => by rw [HZ.out.2.2.1 y, hl]; simp⟩
                      have HTFB := Lib.hid HZ.out.2.2.2
                      clear hl hrb HZ
                      go_wp2_with fail
                      go_ret
                      obtain ⟨L, g1, g2⟩ := HFINB.out
                      exact ⟨w.heap.size, L, rfl, g1, fun y => by rw [g2 y, HFOUND.out y, HKB.out y, or_assoc], HTFB.out, Nat.le_refl _⟩
                    · have hyk : y ∈ keysL LB := by
                        unfold at? at hat
                        cases hf : LB.find? (fun p => p.1 == y) with
                        | none => rw [hf] at hat; simp at hat
                        | some p => exact List.mem_map.2 ⟨p, List.mem_of_find?_eq_some hf, by simpa using List.find?_some hf⟩
                      have hmne : w.heap.size ∉ [wy.heap.size] := by have := HLTB.out; simp; omega
                      have hmap6 := HZ.out.2.1.tch ht6 hmne
                      have T6 : Tch [] w w6 := HZ.out.2.2.2.then ht6 (fun i hi hm => by have := List.mem_singleton.1 hm; have := HLTB.out; omega)
                      have hll : (left.filter (· != y)).length < left.length := by
                        rw [← Nat.not_le]
                        intro hge
                        have := List.filter_sublist.eq_of_length_le hge
                        have hy2 : y ∈ left.filter (· != y) := by rw [this]; exact hk
                        simp at hy2
                      have HU := Lib.hid (hmap6.update (P := Tryz.prog) (k := 26) (t := 59) (e := 101) Tryz.underlying26 Tryz.underlying59 y (.agg #[]))
                      have HIT6 := Lib.hid hit6
                      have HY := Lib.hid (⟨hk, hyk, hll⟩ : _ ∧ _ ∧ _)
                      have HT6 := Lib.hid T6
                      clear hk hyk hll hit6 T6 hmap6 hat hmne ht6 hsz6 hrb
                      go_wp2_with (at_mapUpdate; refine wpList_mapUpdate_run rfl _ _ _ 59 rfl _ _ _ rfl rfl rfl _ HU.out ?_; rintro w7 ⟨q1, q2⟩; have HQ1 := Lib.hid q1; have HQ2 := Lib.hid q2; clear q1 q2)
                      go_roundg (left.filter (· != y)).length
                      case rel =>
                        have hne : wy.heap.size ∉ [w.heap.size] := by have := HLTB.out; simp; omega
                        have hne2 : mB ∉ [w.heap.size] := by have := HLMB.out; simp; omega
                        refine ⟨left.filter (· != y), _, rfl, HIT6.out.tch HQ2.out hne hne2, HQ1.out, fun z => ?_, HT6.out.then HQ2.out (fun i hi hm => by have := List.mem_singleton.1 hm; omega)⟩
                        rw [keysL_put, HZ.out.2.2.1 z]
                        by_cases e : z = y
                        · subst e
                          simp [HY.out.2.1]
                        · simp [e]
                      case measure => exact HY.out.2.2
              · have hyk : y ∈ keysL LA := by
                  unfold at? at hat
                  cases hf : LA.find? (fun p => p.1 == y) with
                  | none => rw [hf] at hat; simp at hat
                  | some p => exact List.mem_map.2 ⟨p, List.mem_of_find?_eq_some hf, by simpa using List.find?_some hf⟩
                have hmne : w.heap.size ∉ [wx.heap.size] := by have := HLTA.out; simp; omega
                have hmap6 := HZ.out.2.1.tch ht6 hmne
                have T6 : Tch [] w w6 := HZ.out.2.2.2.then ht6 (fun i hi hm => by have := List.mem_singleton.1 hm; have := HLTA.out; omega)
                have hll : (left.filter (· != y)).length < left.length := by
                  rw [← Nat.not_le]
                  intro hge
                  have := List.filter_sublist.eq_of_length_le hge
                  have hy2 : y ∈ left.filter (· != y) := by rw [this]; exact hk
                  simp at hy2
                have HU := Lib.hid (hmap6.update (P := Tryz.prog) (k := 26) (t := 59) (e := 101) Tryz.underlying26 Tryz.underlying59 y (.agg #[]))
                have HIT6 := Lib.hid hit6
                have HY := Lib.hid (⟨hk, hyk, hll⟩ : _ ∧ _ ∧ _)
                have HT6 := Lib.hid T6
                clear hk hyk hll hit6 T6 hmap6 hat hmne ht6 hsz6 hrb
                go_wp2_with (at_mapUpdate; refine wpList_mapUpdate_run rfl _ _ _ 59 rfl _ _ _ rfl rfl rfl _ HU.out ?_; rintro w7 ⟨q1, q2⟩; have HQ1 := Lib.hid q1; have HQ2 := Lib.hid q2; clear q1 q2)
                go_roundg (left.filter (· != y)).length
                case rel =>
                  have hne : wx.heap.size ∉ [w.heap.size] := by have := HLTA.out; simp; omega
                  have hne2 : mA ∉ [w.heap.size] := by have := HLMA.out; simp; omega
                  refine ⟨left.filter (· != y), _, rfl, HIT6.out.tch HQ2.out hne hne2, HQ1.out, fun z => ?_, HT6.out.then HQ2.out (fun i hi hm => by have := List.mem_singleton.1 hm; omega)⟩
                  rw [keysL_put, HZ.out.2.2.1 z]
                  by_cases e : z = y
                  · subst e
                    simp [HY.out.2.1]
                  · simp [e]
                case measure => exact HY.out.2.2

theorem get_any : ∀ key : List Int, GetSays key := by
  intro key
  induction key with
  | nil => exact get_step [] (fun _ _ e => by cases e)
  | cons x k ih => exact get_step _ (fun x' k' e => by cases e; exact ih)

end Go.Proofs.YtcolffccbmpndaaGreatDoor
