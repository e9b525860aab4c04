/- spec.TrieSteps once more, with the texts of holes told by their own reader. spec.way. spec.put. Ways as texts, and how many beginnings there are; plain. What spec.RunTrie keeps in memory. -/
import Derived.Test.YtcolffccbmpndaaGreatDoorTrMa
import Derived.Deep.RegionHeld3
import Derived.Maps.OwnSet
namespace Go.Proofs.YtcolffccbmpndaaGreatDoor
open Go.RowKit Go.Deep
set_option maxRecDepth 100000

def stepOkF (s : StepD) : Prop := stepOk s ∧ (s.kind = 1 ∨ s.kind = 3 → fineF s.holes = true)

set_option maxHeartbeats 4000000 in
theorem trieSteps_fun (w : World) (L : List StepD) (sa : Option Addr) (cz : Nat) (hst : StepsAt w sa L) (hs : smallS L) :
    Calls Tryz.prog 14 #[.slice sa L.length cz] w fun e w' => ∃ b, e = .returned (.bool b) ∧ Tch [] w w' ∧ (b = true → ∀ i, i < L.length → stepOkF (L.getD i default)) := by
  have HST := Lib.hid (fun w' (t : Tch [] w w') => hst.tch t)
  have HSM := Lib.hid hs
  have hlI : (L.length : Int) ≤ 1000 := by have := hs.1; omega
  clear hst hs
  go_enter Tryz.func14, Tryz.ntmps14
  go_wp2_with fail
  go_loopg [9] L.length (fun nn s9 wr => ∃ i : Nat, i ≤ L.length ∧ nn = L.length - i ∧ s9 = .int .i64 i ∧ Hid (Tch [] w wr ∧ ∀ j, j < i → stepOkF (L.getD j default)))
  case atStart => exact ⟨0, Nat.zero_le _, rfl, rfl, Tch.refl _ _, fun j hj => absurd hj (Nat.not_lt_zero j)⟩
  case round =>
    obtain ⟨i, hi, rfl, rfl, HZ⟩ := hrel
    rename World => wr
    by_cases hlt : i < L.length
    · have HLT := Lib.hid hlt
      have hlt2 : (i : Int) < (L.length : Int) := by omega
      obtain ⟨a, rfl, hsa⟩ := HST.out wr HZ.out.1 i hlt
      obtain ⟨ba, bc, x0, x1, x2, x3, hby⟩ := hsa.all
      have HWI := Lib.hid (HSM.out.2 i hlt)
      have HSTEP : Hid (stepOkF (L.getD i default) → ∀ j, j < i + 1 → stepOkF (L.getD j default)) := Lib.hid (fun h j hj => by
        by_cases e : j = i
        · rw [e]; exact h
        · exact HZ.out.2 j (by omega))
      generalize L.getD i default = p at *
      obtain ⟨kd, bytes, holes, id⟩ := p
      simp only [] at x0 x1 x2 x3 HWI
      have HTA := Lib.hid (HZ.out.1.alloc (.cells #[.int .i64 kd, .slice ba bytes.length bc, .string (bs holes), .int .u64 id] 28))
      have hbx : ∀ w', Tch [] (wr.alloc (.cells #[.int .i64 kd, .slice ba bytes.length bc, .string (bs holes), .int .u64 id] 28)) w' → w'.cell? ⟨wr.heap.size, 0, none⟩ = some (.int .i64 kd) := fun w' t => by
        rw [cell_of_row w' _ 0 _ _ _ (t.obj (heap_alloc_new wr _) (by simp))]; rfl
      have HBX := Lib.hid hbx
      have HC := Lib.hid (fun w' => holes_fun holes w' (by have := HWI.out.2; omega))
      clear hsa hby hlt hi hbx
      by_cases hk : 0 ≤ kd ∧ kd ≤ 5
      · obtain ⟨hk1, hk2⟩ := hk
        have HK := Lib.hid (⟨hk1, hk2⟩ : _ ∧ _)
        go_wp2_with fail
        refine (HC.out _).mono ?_
        rintro e w2 ⟨ha, hc, hn, hf, fine, rfl, h1, h2, h3, h4, h5⟩
        have hb2 := HBX.out w2 h1.t
        have HT2 := Lib.hid (HTA.out.trans h1.t)
        have H4 := Lib.hid (fun h => holesOk_of (h4 h))
        have H5 := Lib.hid h5
        clear h1 h2 h3 h4 h5
        cases fine with
        | true =>
          have HOKS : Hid (stepOkF ⟨kd, bytes, holes, id⟩) := Lib.hid ⟨⟨HK.out.1, HK.out.2, fun _ => by obtain ⟨f', h1, -⟩ := H4.out (by simp); exact ⟨hn, f', h1⟩⟩, fun _ => H5.out.symm⟩
          go_wp2_with fail
          go_roundg (L.length - (i + 1))
          case rel => exact ⟨i + 1, HLT.out, rfl, by go_num, HT2.out, HSTEP.out HOKS.out⟩
          case measure => have := HLT.out; omega
        | false =>
          by_cases h13 : kd = 1 ∨ kd = 3
          · rcases h13 with rfl | rfl
            all_goals
              go_wp2_with fail
              go_ret
              exact ⟨false, rfl, HT2.out, fun h => by simp at h⟩
          · have h1 : ¬ kd = 1 := fun h => h13 (.inl h)
            have h3 : ¬ kd = 3 := fun h => h13 (.inr h)
            have b1 : (kd == 1) = false := by simpa using h1
            have b3 : (kd == 3) = false := by simpa using h3
            have HOKS : Hid (stepOkF ⟨kd, bytes, holes, id⟩) := Lib.hid ⟨⟨HK.out.1, HK.out.2, fun h => absurd h h13⟩, fun h => absurd h h13⟩
            clear h13 h1 h3
            go_wp2_with fail
            go_roundg (L.length - (i + 1))
            case rel => exact ⟨i + 1, HLT.out, rfl, by go_num, HT2.out, HSTEP.out HOKS.out⟩
            case measure => have := HLT.out; omega
      · by_cases h0 : kd < 0
        · have d0 : decide (kd < 0) = true := decide_eq_true h0
          clear hk
          go_wp2_with fail
          go_ret
          exact ⟨false, rfl, HTA.out, fun h => by simp at h⟩
        · have h5 : 5 < kd := by omega
          have h00 : 0 ≤ kd := by omega
          clear hk h0
          go_wp2_with fail
          go_ret
          exact ⟨false, rfl, HTA.out, fun h => by simp at h⟩
    · obtain rfl : i = L.length := by omega
      clear hlt hi
      go_wp2_with fail
      go_ret
      exact ⟨true, rfl, HZ.out.1, fun _ => HZ.out.2⟩

end Go.Proofs.YtcolffccbmpndaaGreatDoor

namespace Go.Proofs.YtcolffccbmpndaaGreatDoor
open Go.RowKit Go.Deep
set_option maxRecDepth 100000

/-- A prefix with holes as bytes. -/
def wayB (f : Nat → Bool) (l : List Int) (k : Nat) : List Int := (List.range k).flatMap (fun i => if f i = true then [104, 0] else [98, l.getD i 0])
theorem wayB_succ (f : Nat → Bool) (l : List Int) (k : Nat) : wayB f l (k + 1) = wayB f l k ++ (if f k = true then [104, 0] else [98, l.getD k 0]) := by
  unfold wayB
  rw [List.range_succ, List.flatMap_append]
  simp
theorem wayB_len (f : Nat → Bool) (l : List Int) : ∀ k, (wayB f l k).length = 2 * k
  | 0 => rfl
  | k + 1 => by
    rw [wayB_succ, List.length_append, wayB_len f l k]
    split <;> simp <;> omega

theorem wayB_u8 {f : Nat → Bool} {l : List Int} (hu : ∀ x ∈ l, 0 ≤ x ∧ x < 256) {k : Nat} (hk : k ≤ l.length) : ∀ x ∈ wayB f l k, 0 ≤ x ∧ x < 256 := by
  intro x hx
  unfold wayB at hx
  obtain ⟨i, hi, h⟩ := List.mem_flatMap.1 hx
  have hi2 : i < l.length := by have := List.mem_range.1 hi; omega
  split at h
  · simp only [List.mem_cons, List.not_mem_nil, or_false] at h
    rcases h with rfl | rfl <;> omega
  · simp only [List.mem_cons, List.not_mem_nil, or_false] at h
    rcases h with rfl | rfl
    · omega
    · exact hu _ (by simp [List.getD, List.getElem?_eq_getElem hi2])
theorem u8_app2 {w0 w : World} {a : Option Addr} {c m : Nat} {l : List Int} (h : Own w0 w 5 1 (.slice a m c) m (u8V l)) (hm : m = l.length) (x y : Int) (hl : m ≤ 100000) :
    ∃ v' w', (Builtin.append_ #[23, 23] 23 #[.slice a m c, .slice (some ⟨w.heap.size, 0, none⟩) 2 2]).run Tryz.prog (w.alloc (.cells #[.int .u8 x, .int .u8 y] 5)) = .ok v' w' ∧ ∃ a' c', v' = .slice a' (m + 2) c' ∧ Own w0 w' 5 1 (.slice a' (m + 2) c') (m + 2) (u8V (l ++ [x, y])) := by
  subst hm
  obtain ⟨i0, hinf, hz0, hz1, hz2⟩ := info_parts Tryz.infoByteL
  have hN := heap_alloc_new w (.cells #[.int .u8 x, .int .u8 y] 5)
  obtain ⟨v', w', hr, ho, -⟩ := own_apps (ty := 23) Tryz.underlying23 hinf hz0 hz1 hz2 rfl (by decide) (by decide) ⟨w.heap.size, 0, none⟩ 2 2 (u8V [x, y]) (h.tch ((Tch.refl [] w).alloc _)) (by omega) rfl (fun j u hu => by
    rw [addr_add0, cell_of_row _ _ j _ _ _ hN]
    simpa [u8V] using hu) (by
      intro u hu
      obtain ⟨x, -, rfl⟩ := List.mem_map.1 hu
      rfl)
  obtain ⟨a', c', e⟩ := ownsRow_slice ho.row
  subst e
  refine ⟨_, w', hr, a', c', rfl, ?_⟩
  have e : u8V (l ++ [x, y]) = u8V l ++ u8V [x, y] := by simp [u8V]
  rw [e]
  exact ho

set_option maxHeartbeats 4000000 in
theorem way_any (w : World) (l : List Int) (ba : Option Addr) (bc : Nat) (v : Value) (n : Nat) (f : Nat → Bool) (hb : By w l ba bc) (hv : BlAt w v n f) (hn : n ≤ 1000000) (hl : l.length ≤ 20000) :
    Calls Tryz.prog 36 #[.slice ba l.length bc, v] w fun e w' => e = .returned (.string (bs (toB (wayB (fun i => decide (i < n) && f i) l l.length)))) ∧ Tch [] w w' := by
  have HB := Lib.hid hb
  have HV := Lib.hid hv
  have HL := Lib.hid hl
  have hlI : (l.length : Int) ≤ 20000 := by omega
  have HOP := Lib.hid (fun (w' : World) (t : Tch [] w w') (i : Nat) (hi : i ≤ 20000) => open_any v n f i w' (hv.tch t) (by omega) (by omega))
  have HN0 := Lib.hid (Own.new (Tch.refl [] w) 5 1)
  clear hb hv hl
  go_enter Tryz.func36, Tryz.ntmps36
  go_wp2_with fail
  go_loopg [5, 11] l.length (fun nn s5 s11 wr => ∃ (k m : Nat) (a : Option Addr) (c : Nat), k ≤ l.length ∧ nn = l.length - k ∧ s5 = .slice a m c ∧ s11 = .int .i64 k ∧ Hid (m = 2 * k ∧ Own w wr 5 1 (.slice a m c) m (u8V (wayB (fun i => decide (i < n) && f i) l k))))
  case atStart => exact ⟨0, 0, _, _, Nat.zero_le _, rfl, rfl, rfl, rfl, HN0.out⟩
  case round =>
    obtain ⟨k, m, a, c, hk, rfl, rfl, rfl, HZ⟩ := hrel
    rename World => wr
    by_cases hlt : k < l.length
    · have HLT := Lib.hid hlt
      have hlt2 : (k : Int) < (l.length : Int) := by omega
      have hc0 := (HB.out.tch HZ.out.2.t)
      obtain ⟨ad, rfl⟩ : ∃ ad, ba = some ad := by
        cases ba with
        | none => have := (hc0.nil rfl).2; rw [this] at hlt; simp at hlt
        | some ad => exact ⟨ad, rfl⟩
      have hcx := (hc0.cell ad rfl k hlt).2
      have HO := Lib.hid (HOP.out wr HZ.out.2.t k (by have := HL.out; omega))
      have hws := wayB_succ (fun i => decide (i < n) && f i) l k
      generalize (decide (k < n) && f k) = b at *
      generalize l.getD k 0 = x at *
      have HWS := Lib.hid hws
      have hmI : (m : Int) ≤ 40000 := by have := HZ.out.1; have := HL.out; omega
      have HAP := Lib.hid (fun y z => u8_app2 HZ.out.2 (by rw [wayB_len]; exact HZ.out.1) y z (by have := HZ.out.1; have := HL.out; omega))
      have HMK := Lib.hid HZ.out.1
      clear hc0 hlt hk hws HZ
      go_wp2_with fail
      refine HO.out.mono ?_
      rintro e w5 ⟨rfl, rfl⟩
      cases b with
      | true =>
        have hws := HWS.out
        simp only [if_true] at hws
        have HW2 := Lib.hid hws
        clear hws HWS
        go_wp2_with (at_builtin; refine wpList_append_run rfl (.tmp 19) (.tmp 20) 23 rfl (.slice a m c) (.slice (some ⟨w5.heap.size, 0, none⟩) 2 2) (by simp [Act.eval]) (by simp [Act.eval]) _ (HAP.out 104 0) ?_; rintro vv w7 ⟨g7, c7, rfl, n1⟩; have HN1 := Lib.hid n1; clear n1)
        go_roundg (l.length - (k + 1))
        case rel => exact ⟨k + 1, m + 2, _, _, HLT.out, rfl, rfl, by go_num, by have := HMK.out; omega, by rw [HW2.out]; exact HN1.out⟩
        case measure => have := HLT.out; omega
      | false =>
        have hws := HWS.out
        simp only [Bool.false_eq_true, if_false] at hws
        have HW2 := Lib.hid hws
        clear hws HWS
        go_wp2_with (at_builtin; refine wpList_append_run rfl (.tmp 22) (.tmp 24) 23 rfl (.slice a m c) (.slice (some ⟨w5.heap.size, 0, none⟩) 2 2) (by simp [Act.eval]) (by simp [Act.eval]) _ (HAP.out 98 x) ?_; rintro vv w7 ⟨g7, c7, rfl, n1⟩; have HN1 := Lib.hid n1; clear n1)
        go_roundg (l.length - (k + 1))
        case rel => exact ⟨k + 1, m + 2, _, _, HLT.out, rfl, rfl, by go_num, by have := HMK.out; omega, by rw [HW2.out]; exact HN1.out⟩
        case measure => have := HLT.out; omega
    · obtain rfl : k = l.length := by omega
      clear hlt hk
      have hlen := wayB_len (fun i => decide (i < n) && f i) l l.length
      have hm := HZ.out.1
      have hby := by_of_row HZ.out.2.row (by rw [hlen, hm]) (wayB_u8 HB.out.u8 (Nat.le_refl _))
      have hcv := conv_by hby (m := m) (by rw [hlen, hm]; exact Nat.le_refl _)
      rw [List.take_of_length_le (by rw [hlen, hm]; exact Nat.le_refl _)] at hcv
      obtain ⟨sv, hsv⟩ : ∃ sv, sv = bs (toB (wayB (fun i => decide (i < n) && f i) l l.length)) := ⟨_, rfl⟩
      rw [← hsv] at hcv
      have HSV := Lib.hid hsv
      have HT := Lib.hid HZ.out.2.t
      clear hlen hm hby HZ hsv
      go_wp2_with fail
      go_ret
      exact ⟨by rw [← HSV.out]; rfl, HT.out⟩

end Go.Proofs.YtcolffccbmpndaaGreatDoor

namespace Go.Proofs.YtcolffccbmpndaaGreatDoor
open Go.RowKit Go.Deep
set_option maxRecDepth 100000

theorem put_at (n : Int) : ∀ (l : List Int) (k : Nat), k ≤ l.length → (∀ j, j < k → l.getD j 0 < n) → putO l n = l.take k ++ putO (l.drop k) n
  | l, 0, _, _ => by simp
  | [], k + 1, h, _ => by simp at h
  | x :: l, k + 1, h, hl => by
    have h0 : x < n := by simpa using hl 0 (by omega)
    have ih := put_at n l k (by simpa using h) (fun j hj => by simpa using hl (j + 1) (by omega))
    rw [List.take_succ_cons, List.drop_succ_cons, List.cons_append, ← ih]
    conv => lhs; unfold putO
    rw [if_pos h0]

/-- An append at a step of a region that draws its order, given its run. -/
theorem step_append_run {ops : Array Oper} {o : Oper} {a : Act} {w : World} {K : Act → World → Prop} {Q : Exit → Act → World → Prop} {E : Prop} (hgd : o.guard = none) (s x : Operand) (t : TypeId)
    (ho : o.op = .call { callee := .builtin .append, args := #[s, x], argTypes := #[t, t] }) (v xv : Value) (hs : a.eval s = v) (hx : a.eval x = xv)
    {R : Value → World → Prop} (hr : ∃ v' w', (Builtin.append_ #[t, t] o.type #[v, xv]).run Tryz.prog w = .ok v' w' ∧ R v' w') (h : ∀ v' w', R v' w' → K (a.put o.dst v') w') :
    if Region.wanted o (yielded ops a.tmps) = true then Oper.wp Tryz.prog o a w K Q else E := by
  have hw : Region.wanted o (yielded ops a.tmps) = true := by simp [Region.wanted, hgd]
  rw [if_pos hw]
  obtain ⟨v', w', hr, hR⟩ := hr
  unfold Oper.wp execOp
  simp only [ho, resolve, invoke, builtin, Sem.run_bind, Sem.run_pure, Result.andThen_ok, List.map_toArray, List.map_cons, List.map_nil, hs, hx, hr]
  exact h v' w' hR

theorem Tryz.infoU64L : (Tryz.prog.info? 26).map (fun i => (i.zero, i.size, i.bytes)) = some (some (.int .u64 0), 1, 8) := by kernel_rfl
theorem own_u64_apps {w0 w : World} {a : Option Addr} {c m : Nat} {l src : List Int} {so : Option Addr} {k d : Nat} (h : Own w0 w 26 1 (.slice a m c) m (uV l)) (hk : src.length = k) (hs : ∀ j, j < k → ∃ ad, so = some ad ∧ w.cell? (ad.add j) = some (.int .u64 (src.getD j 0))) (hl : m + k ≤ 1000000) :
    ∃ v' w', (Builtin.append_ #[31, 31] 31 #[.slice a m c, .slice so k d]).run Tryz.prog w = .ok v' w' ∧ ∃ a' c', v' = .slice a' (m + k) c' ∧ Own w0 w' 26 1 (.slice a' (m + k) c') (m + k) (uV (l ++ src)) ∧ Tch (Value.slice a m c).ownBlock.toList w w' := by
  obtain ⟨i0, hinf, hz0, hz1, hz2⟩ := info_parts Tryz.infoU64L
  obtain ⟨v', w', hr, ho, ht⟩ := own_apps_any (ty := 31) Tryz.underlying31 hinf hz0 hz1 hz2 rfl (by decide) (by decide) so k d (uV src) h (by omega) (by simp [uV, hk]) (fun j u hu => by
    have hj : j < src.length := by have := (List.getElem?_eq_some_iff.1 hu).1; simpa [uV] using this
    obtain ⟨ad, e1, e2⟩ := hs j (by omega)
    refine ⟨ad, e1, ?_⟩
    rw [e2]
    simp only [uV, List.getElem?_map, List.getElem?_eq_getElem hj, Option.map_some, Option.some.injEq] at hu
    rw [← hu]
    simp [List.getD, List.getElem?_eq_getElem hj]) (by
      intro u hu
      obtain ⟨x, -, rfl⟩ := List.mem_map.1 hu
      rfl)
  obtain ⟨a', c', e⟩ := ownsRow_slice ho.row
  subst e
  refine ⟨_, w', hr, a', c', rfl, ?_, ht⟩
  have e : uV (l ++ src) = uV l ++ uV src := by simp [uV]
  rw [e]
  exact ho

theorem add_add (ad : Addr) (k j : Nat) : (ad.add k).add j = ad.add (k + j) := by
  unfold Addr.add
  by_cases hk : k = 0
  · subst hk; simp
  · by_cases hj : j = 0
    · subst hj; simp
    · simp [hk, hj, Nat.add_assoc]

/-- The three appends of put. -/
theorem put_app1 {w0 W : World} {l : List Int} {k c g : Nat} {so : Option Addr} (ho : Own w0 W 26 1 (.slice (some ⟨g, 0, none⟩) 0 0) 0 (uV [])) (hk : k ≤ l.length) (hl : l.length ≤ 100000) (hc : ∀ j, j < k → ∃ ad, so = some ad ∧ W.cell? (ad.add j) = some (.int .u64 (l.getD j 0))) :
    ∃ v' w', (Builtin.append_ #[31, 31] 31 #[.slice (some ⟨g, 0, none⟩) 0 0, .slice so k c]).run Tryz.prog W = .ok v' w' ∧ ∃ a' c', v' = .slice a' k c' ∧ Own w0 w' 26 1 (.slice a' k c') k (uV (l.take k)) ∧ Tch [g] W w' := by
  have h := own_u64_apps (l := []) (src := l.take k) (so := so) (k := k) (d := c) ho (by simp; omega) (fun j hj => by
    obtain ⟨ad, e1, e2⟩ := hc j hj
    refine ⟨ad, e1, ?_⟩
    rw [e2]
    simp [List.getD, List.getElem?_take, hj]) (by omega)
  simpa [Value.ownBlock] using h
theorem put_app2 {w0 W : World} {l : List Int} {k c5 nb : Nat} {n : Int} {a5 : Option Addr} (ho : Own w0 W 26 1 (.slice a5 k c5) k (uV (l.take k))) (hk : k ≤ l.length) (hl : l.length ≤ 100000) (hc : W.cell? ⟨nb, 0, none⟩ = some (.int .u64 n)) :
    ∃ v' w', (Builtin.append_ #[31, 31] 31 #[.slice a5 k c5, .slice (some ⟨nb, 0, none⟩) 1 1]).run Tryz.prog W = .ok v' w' ∧ ∃ a' c', v' = .slice a' (k + 1) c' ∧ Own w0 w' 26 1 (.slice a' (k + 1) c') (k + 1) (uV (l.take k ++ [n])) := by
  obtain ⟨v', w', hr, a', c', e, h1, -⟩ := own_u64_apps (l := l.take k) (src := [n]) (so := some ⟨nb, 0, none⟩) (k := 1) (d := 1) ho rfl (fun j hj => ⟨_, rfl, by
    obtain rfl : j = 0 := by omega
    rw [addr_add0]
    exact hc⟩) (by omega)
  exact ⟨v', w', hr, a', c', e, h1⟩
theorem put_app3 {w0 W : World} {l : List Int} {k m c c6 : Nat} {n : Int} {a6 so : Option Addr} (ho : Own w0 W 26 1 (.slice a6 (k + 1) c6) (k + 1) (uV (l.take k ++ [n]))) (hk : k ≤ l.length) (hl : l.length ≤ 100000) (hm : l.length - k = m) (hc : ∀ j, j < m → ∃ ad, so = some ad ∧ W.cell? (ad.add j) = some (.int .u64 (l.getD (k + j) 0))) :
    ∃ v' w', (Builtin.append_ #[31, 31] 31 #[.slice a6 (k + 1) c6, .slice so m c]).run Tryz.prog W = .ok v' w' ∧ ∃ a' c', v' = .slice a' (l.length + 1) c' ∧ Own w0 w' 26 1 (.slice a' (l.length + 1) c') (l.length + 1) (uV ((l.take k ++ [n]) ++ l.drop k)) := by
  obtain ⟨v', w', hr, a', c', e, h1, -⟩ := own_u64_apps (l := l.take k ++ [n]) (src := l.drop k) (so := so) (k := m) (d := c) ho (by simp; omega) (fun j hj => by
    obtain ⟨ad, e1, e2⟩ := hc j hj
    refine ⟨ad, e1, ?_⟩
    rw [e2]
    simp [List.getD, List.getElem?_drop]) (by omega)
  have e2 : k + 1 + m = l.length + 1 := by omega
  rw [e2] at e h1
  exact ⟨v', w', hr, a', c', e, h1⟩
theorem put_end {w0 w w7 : World} {l M : List Int} {n : Int} {a a7 : Option Addr} {c c7 m : Nat} (h : Own w0 w 26 1 (.slice a m c) m (uV l)) (e : putO l n = M) (h7 : Own w w7 26 1 (.slice a7 (m + 1) c7) (m + 1) (uV M)) :
    ∃ a' c', (Ending.returned (.slice a7 (m + 1) c7)) = .returned (.slice a' (putO l n).length c') ∧ Tch [] w w7 ∧ Own w0 w7 26 1 (.slice a' (putO l n).length c') (putO l n).length (uV (putO l n)) := by
  subst e
  have e2 : (putO l n).length = m + 1 := by have := h7.row.1; simpa [uV] using this
  rw [e2]
  exact ⟨_, _, rfl, h7.t, ⟨h.t.trans h7.t, ownsRow_low h7.row h.t.size⟩⟩

theorem put_oC (wr : World) (n : Int) : Own wr ((wr.drew.alloc (.cells #[.int .u64 n] 26)).alloc (.cells #[] 26)) 26 1 (.slice (some ⟨wr.heap.size + 1, 0, none⟩) 0 0) 0 (uV []) := by
  have h := Own.new ((Tch.refl [] wr).drew.alloc (.cells #[.int .u64 n] 26)) 26 1
  have e : (wr.drew.alloc (.cells #[.int .u64 n] 26)).heap.size = wr.heap.size + 1 := by simp
  rw [e] at h
  exact h
theorem put_nA (w : World) (n : Int) : (w.alloc (.cells #[.int .u64 n] 26)).cell? ⟨w.heap.size, 0, none⟩ = some (.int .u64 n) := by
  rw [cell_of_row _ _ 0 _ _ _ (heap_alloc_new w _)]; rfl
theorem put_nB {wr w5 : World} {n : Int} (t : Tch [wr.heap.size] ((wr.drew.alloc (.cells #[] 26)).alloc (.cells #[.int .u64 n] 26)) w5) : w5.cell? ⟨wr.heap.size + 1, 0, none⟩ = some (.int .u64 n) := by
  have h := heap_alloc_new (wr.drew.alloc (.cells #[] 26)) (.cells #[.int .u64 n] 26)
  have e : (wr.drew.alloc (.cells #[] 26)).heap.size = wr.heap.size + 1 := by simp
  rw [e] at h
  rw [cell_of_row _ _ 0 _ _ _ (t.obj h (by simp))]; rfl
theorem put_nC {wr w5 : World} {n : Int} (t : Tch [wr.heap.size + 1] ((wr.drew.alloc (.cells #[.int .u64 n] 26)).alloc (.cells #[] 26)) w5) : w5.cell? ⟨wr.heap.size, 0, none⟩ = some (.int .u64 n) := by
  have h0 := heap_alloc_new wr.drew (.cells #[.int .u64 n] 26)
  have e : wr.drew.heap.size = wr.heap.size := by simp
  rw [e] at h0
  have h := ((Tch.refl [] (wr.drew.alloc (.cells #[.int .u64 n] 26))).alloc (.cells #[] 26)).obj h0 (by simp)
  rw [cell_of_row _ _ 0 _ _ _ (t.obj h (by simp))]; rfl

set_option maxHeartbeats 4000000 in
theorem put_any (w0 w : World) (l : List Int) (a : Option Addr) (c : Nat) (n : Int) (h : Own w0 w 26 1 (.slice a l.length c) l.length (uV l)) (hl : l.length ≤ 100000) :
    Calls Tryz.prog 37 #[.slice a l.length c, .int .u64 n] w fun e w' => ∃ a' c', e = .returned (.slice a' (putO l n).length c') ∧ Tch [] w w' ∧ Own w0 w' 26 1 (.slice a' (putO l n).length c') (putO l n).length (uV (putO l n)) := by
  have HO := Lib.hid h
  have HU := Lib.hid (UAt.of_row h.row).1
  have HL := Lib.hid hl
  have hlI : (l.length : Int) ≤ 100000 := by omega
  clear h hl
  go_enter Tryz.func37, Tryz.ntmps37
  go_wp2_with fail
  go_loopg [5] l.length (fun nn s5 wr => ∃ k : Nat, k ≤ l.length ∧ nn = l.length - k ∧ s5 = .int .i64 k ∧ Hid (wr = w ∧ ∀ j, j < k → l.getD j 0 < n))
  case atStart => exact ⟨0, Nat.zero_le _, rfl, rfl, rfl, fun j hj => absurd hj (Nat.not_lt_zero j)⟩
  case round =>
    obtain ⟨k, hk, rfl, rfl, HZ⟩ := hrel
    rename World => wr
    obtain rfl := HZ.out.1
    have HLO := Lib.hid HZ.out.2
    by_cases hlt : k < l.length
    · have HLT := Lib.hid hlt
      have hlt2 : (k : Int) < (l.length : Int) := by omega
      obtain ⟨ad, rfl, hca⟩ := HU.out.cell k hlt
      have HX : Hid (∀ x, x = l.getD k 0 → x < n → ∀ j, j < k + 1 → l.getD j 0 < n) := Lib.hid (fun x hx hn j hj => by
        by_cases e : j = k
        · rw [e, ← hx]; exact hn
        · exact HLO.out j (by omega))
      obtain ⟨x, hx⟩ : ∃ x, x = l.getD k 0 := ⟨_, rfl⟩
      rw [← hx] at hca
      have HXE := Lib.hid hx
      clear hx hlt hk HZ
      by_cases h1 : x < n
      · have H1 := Lib.hid (HX.out x HXE.out h1)
        go_wp2_with fail
        go_roundg (l.length - (k + 1))
        case rel => exact ⟨k + 1, HLT.out, rfl, by go_num, rfl, H1.out⟩
        case measure => have := HLT.out; omega
      · by_cases h2 : x = n
        · have HPE : Hid (putO l n = l) := Lib.hid (by
            rw [put_at n l k (by have := HLT.out; omega) HLO.out]
            conv => rhs; rw [← List.take_append_drop k l]
            congr 1
            have e : l.drop k = x :: l.drop (k + 1) := by
              rw [List.drop_eq_getElem_cons HLT.out, HXE.out]
              simp [List.getD, List.getElem?_eq_getElem HLT.out]
            rw [e]
            unfold putO
            rw [if_neg h1, if_pos h2])
          subst h2
          go_wp2_with fail
          go_ret
          exact ⟨_, _, by rw [HPE.out]; rfl, Tch.refl _ _, by rw [HPE.out]; exact HO.out⟩
        · have h3 : n < x := by omega
          have h4 : (x == n) = false := by simpa using h2
          have hkn : k < l.length := HLT.out
          have HPE : Hid (putO l n = (l.take k ++ [n]) ++ l.drop k) := Lib.hid (by
            rw [put_at n l k (by have := HLT.out; omega) HLO.out, List.append_assoc]
            congr 1
            have e : l.drop k = x :: l.drop (k + 1) := by
              rw [List.drop_eq_getElem_cons HLT.out, HXE.out]
              simp [List.getD, List.getElem?_eq_getElem HLT.out]
            rw [e]
            conv => lhs; unfold putO
            rw [if_neg h1, if_neg h2]
            rfl)
          have hlc : l.length ≤ c := by
            rcases HO.out.row.2 with ⟨e, hn⟩ | ⟨g, cap, cur, e, -, -, hnc, -⟩
            · simp at e
            · simp at e; omega
          have hkc : (k : Int) ≤ (c : Int) := by omega
          have hkc1 : (k : Int) < (c : Int) := by omega
          have hkc2 : ¬ k = c := by omega
          have hkc4 : ¬ c = k := by omega
          have hlc2 : (l.length : Int) ≤ (c : Int) := by omega
          have hkc3 : ((k : Int) == (c : Int)) = false := beq_eq_false_iff_ne.2 (by omega)
          have hkl : (k : Int) ≤ (l.length : Int) := by omega
          have HKB := Lib.hid (show k ≤ l.length by omega)
          have HAD : Hid (∀ W, Tch [] wr W → ∀ j, j < l.length → W.cell? (ad.add j) = some (.int .u64 (l.getD j 0))) := Lib.hid (fun W t j hj => by
            obtain ⟨ad', e1, e2⟩ := (HU.out.tch t).cell j hj
            obtain rfl := Option.some.inj e1
            exact e2)
          have HA1 := Lib.hid (fun (W : World) (g : Nat) (ho : Own wr W 26 1 (.slice (some ⟨g, 0, none⟩) 0 0) 0 (uV [])) => put_app1 (l := l) (k := k) (c := c) (so := some ad) ho HKB.out HL.out (fun j hj => ⟨_, rfl, HAD.out W ho.t j (Nat.lt_of_lt_of_le hj HKB.out)⟩))
          have HA2 := Lib.hid (fun (W : World) (a5 : Option Addr) (c5 nb : Nat) (ho : Own wr W 26 1 (.slice a5 k c5) k (uV (l.take k))) (hc : W.cell? ⟨nb, 0, none⟩ = some (.int .u64 n)) => put_app2 (l := l) (k := k) (n := n) ho HKB.out HL.out hc)
          have HA3 := Lib.hid (fun (W : World) (a6 : Option Addr) (c6 : Nat) (ho : Own wr W 26 1 (.slice a6 (k + 1) c6) (k + 1) (uV (l.take k ++ [n]))) => put_app3 (l := l) (k := k) (c := c - k) (m := l.length - k) (n := n) (so := some (ad.add k)) ho HKB.out HL.out rfl (fun j hj => ⟨_, rfl, by rw [add_add]; exact HAD.out W ho.t (k + j) (by omega)⟩))
          clear h1 HX hkn hlc
          go_wp2_with fail
          go_region_held3 (fun (_ : World) => True) (exact trivial) (first
            | (refine step_append_run rfl (.tmp 33) (.tmp 36) 31 rfl (.slice (some ⟨wr.heap.size, 0, none⟩) 0 0) (.slice (some ad) k c) (by simp [Act.eval, Act.put]) (by simp [Act.eval, Act.put]) (HA1.out (wr.drew.alloc (.cells #[] 26)) wr.heap.size (Own.new (Tch.refl [] wr).drew _ _)) ?_
               rintro v' w5 ⟨a5, c5, rfl, ho, ht⟩
               have HO5 := Lib.hid ho
               clear ho ht)
            | (refine step_append_run rfl (.tmp 33) (.tmp 36) 31 rfl (.slice (some ⟨wr.heap.size, 0, none⟩) 0 0) (.slice (some ad) k c) (by simp [Act.eval, Act.put]) (by simp [Act.eval, Act.put]) (HA1.out ((wr.drew.alloc (.cells #[] 26)).alloc (.cells #[.int .u64 n] 26)) wr.heap.size ((Own.new (Tch.refl [] wr).drew _ _).tch ((Tch.refl _ _).alloc _))) ?_
               rintro v' w5 ⟨a5, c5, rfl, ho, ht⟩
               have HO5 := Lib.hid ho
               have HN5 := Lib.hid (put_nB ht)
               clear ho ht)
            | (refine step_append_run rfl (.tmp 33) (.tmp 36) 31 rfl (.slice (some ⟨wr.heap.size + 1, 0, none⟩) 0 0) (.slice (some ad) k c) (by simp [Act.eval, Act.put]) (by simp [Act.eval, Act.put]) (HA1.out ((wr.drew.alloc (.cells #[.int .u64 n] 26)).alloc (.cells #[] 26)) (wr.heap.size + 1) (put_oC wr n)) ?_
               rintro v' w5 ⟨a5, c5, rfl, ho, ht⟩
               have HO5 := Lib.hid ho
               have HN5 := Lib.hid (put_nC ht)
               clear ho ht)
            | (refine step_append_run rfl (.tmp 37) (.tmp 39) 31 rfl (.slice a5 k c5) (.slice (some ⟨w5.heap.size, 0, none⟩) 1 1) (by simp [Act.eval, Act.put]) (by simp [Act.eval, Act.put]) (HA2.out (w5.alloc (.cells #[.int .u64 n] 26)) a5 c5 w5.heap.size (HO5.out.tch ((Tch.refl _ _).alloc _)) (put_nA w5 n)) ?_
               rintro v' w6 ⟨a6, c6, rfl, ho⟩
               have HO6 := Lib.hid ho
               clear ho)
            | (refine step_append_run rfl (.tmp 37) (.tmp 39) 31 rfl (.slice a5 k c5) (.slice (some ⟨wr.heap.size + 1, 0, none⟩) 1 1) (by simp [Act.eval, Act.put]) (by simp [Act.eval, Act.put]) (HA2.out w5 a5 c5 (wr.heap.size + 1) HO5.out HN5.out) ?_
               rintro v' w6 ⟨a6, c6, rfl, ho⟩
               have HO6 := Lib.hid ho
               clear ho)
            | (refine step_append_run rfl (.tmp 37) (.tmp 39) 31 rfl (.slice a5 k c5) (.slice (some ⟨wr.heap.size, 0, none⟩) 1 1) (by simp [Act.eval, Act.put]) (by simp [Act.eval, Act.put]) (HA2.out w5 a5 c5 wr.heap.size HO5.out HN5.out) ?_
               rintro v' w6 ⟨a6, c6, rfl, ho⟩
               have HO6 := Lib.hid ho
               clear ho)
            | (refine step_append_run rfl (.tmp 40) (.tmp 43) 31 rfl (.slice a6 (k + 1) c6) (.slice (some (ad.add k)) (l.length - k) (c - k)) (by simp [Act.eval, Act.put]) (by simp [Act.eval, Act.put, hkc4]) (HA3.out w6 a6 c6 HO6.out) ?_
               rintro v' w7 ⟨a7, c7, rfl, ho⟩
               have HO7 := Lib.hid ho
               clear ho))
          all_goals (go_wp2_with fail; go_ret; exact put_end HO.out HPE.out HO7.out)
    · obtain rfl : k = l.length := by omega
      have HLO := HZ.out.2
      have HPE : Hid (putO l n = (l.take l.length ++ [n]) ++ l.drop l.length) := Lib.hid (by
        rw [put_at n l l.length (Nat.le_refl _) HLO, List.append_assoc]
        simp [putO])
      clear HLO HZ hlt hk
      cases a with
      | none =>
        obtain ⟨hl0, rfl⟩ : l.length = 0 ∧ c = 0 := by
          rcases HO.out.row.2 with ⟨e, hn⟩ | ⟨g, cap, cur, e, -⟩
          · simp at e; exact ⟨by omega, by omega⟩
          · simp at e
        obtain rfl : l = [] := List.length_eq_zero_iff.1 hl0
        clear hl0
        have HA1 := Lib.hid (fun (W : World) (g : Nat) (ho : Own wr W 26 1 (.slice (some ⟨g, 0, none⟩) 0 0) 0 (uV [])) => put_app1 (l := []) (k := 0) (c := 0) (so := none) ho (by simp) HL.out (fun j hj => absurd hj (by omega)))
        have HA2 := Lib.hid (fun (W : World) (a5 : Option Addr) (c5 nb : Nat) (ho : Own wr W 26 1 (.slice a5 0 c5) 0 (uV (([] : List Int).take 0))) (hc : W.cell? ⟨nb, 0, none⟩ = some (.int .u64 n)) => put_app2 (l := []) (k := 0) (n := n) ho (by simp) HL.out hc)
        have HA3 := Lib.hid (fun (W : World) (a6 : Option Addr) (c6 : Nat) (ho : Own wr W 26 1 (.slice a6 (0 + 1) c6) (0 + 1) (uV (([] : List Int).take 0 ++ [n]))) => put_app3 (l := []) (k := 0) (c := 0) (m := 0) (n := n) (so := none) ho (by simp) HL.out (by simp) (fun j hj => absurd hj (by omega)))
        simp only [List.length_nil] at *
        go_wp2_with fail
        go_region_held3 (fun (_ : World) => True) (exact trivial) (first
          | (refine step_append_run rfl (.tmp 33) (.tmp 36) 31 rfl (.slice (some ⟨wr.heap.size, 0, none⟩) 0 0) (.slice none 0 0) (by simp [Act.eval, Act.put]) (by simp [Act.eval, Act.put]) (HA1.out (wr.drew.alloc (.cells #[] 26)) wr.heap.size (Own.new (Tch.refl [] wr).drew _ _)) ?_
             rintro v' w5 ⟨a5, c5, rfl, ho, ht⟩
             have HO5 := Lib.hid ho
             clear ho ht)
          | (refine step_append_run rfl (.tmp 33) (.tmp 36) 31 rfl (.slice (some ⟨wr.heap.size, 0, none⟩) 0 0) (.slice none 0 0) (by simp [Act.eval, Act.put]) (by simp [Act.eval, Act.put]) (HA1.out ((wr.drew.alloc (.cells #[] 26)).alloc (.cells #[.int .u64 n] 26)) wr.heap.size ((Own.new (Tch.refl [] wr).drew _ _).tch ((Tch.refl _ _).alloc _))) ?_
             rintro v' w5 ⟨a5, c5, rfl, ho, ht⟩
             have HO5 := Lib.hid ho
             have HN5 := Lib.hid (put_nB ht)
             clear ho ht)
          | (refine step_append_run rfl (.tmp 33) (.tmp 36) 31 rfl (.slice (some ⟨wr.heap.size + 1, 0, none⟩) 0 0) (.slice none 0 0) (by simp [Act.eval, Act.put]) (by simp [Act.eval, Act.put]) (HA1.out ((wr.drew.alloc (.cells #[.int .u64 n] 26)).alloc (.cells #[] 26)) (wr.heap.size + 1) (put_oC wr n)) ?_
             rintro v' w5 ⟨a5, c5, rfl, ho, ht⟩
             have HO5 := Lib.hid ho
             have HN5 := Lib.hid (put_nC ht)
             clear ho ht)
          | (refine step_append_run rfl (.tmp 37) (.tmp 39) 31 rfl (.slice a5 0 c5) (.slice (some ⟨w5.heap.size, 0, none⟩) 1 1) (by simp [Act.eval, Act.put]) (by simp [Act.eval, Act.put]) (HA2.out (w5.alloc (.cells #[.int .u64 n] 26)) a5 c5 w5.heap.size (HO5.out.tch ((Tch.refl _ _).alloc _)) (put_nA w5 n)) ?_
             rintro v' w6 ⟨a6, c6, rfl, ho⟩
             have HO6 := Lib.hid ho
             clear ho)
          | (refine step_append_run rfl (.tmp 37) (.tmp 39) 31 rfl (.slice a5 0 c5) (.slice (some ⟨wr.heap.size + 1, 0, none⟩) 1 1) (by simp [Act.eval, Act.put]) (by simp [Act.eval, Act.put]) (HA2.out w5 a5 c5 (wr.heap.size + 1) HO5.out HN5.out) ?_
             rintro v' w6 ⟨a6, c6, rfl, ho⟩
             have HO6 := Lib.hid ho
             clear ho)
          | (refine step_append_run rfl (.tmp 37) (.tmp 39) 31 rfl (.slice a5 0 c5) (.slice (some ⟨wr.heap.size, 0, none⟩) 1 1) (by simp [Act.eval, Act.put]) (by simp [Act.eval, Act.put]) (HA2.out w5 a5 c5 wr.heap.size HO5.out HN5.out) ?_
             rintro v' w6 ⟨a6, c6, rfl, ho⟩
             have HO6 := Lib.hid ho
             clear ho)
          | (refine step_append_run rfl (.tmp 40) (.tmp 43) 31 rfl (.slice a6 (0 + 1) c6) (.slice none 0 0) (by simp [Act.eval, Act.put]) (by simp [Act.eval, Act.put]) (HA3.out w6 a6 c6 HO6.out) ?_
             rintro v' w7 ⟨a7, c7, rfl, ho⟩
             have HO7 := Lib.hid ho
             clear ho))
        all_goals (go_wp2_with fail; go_ret; exact put_end HO.out HPE.out HO7.out)
      | some ad =>
        have hlc : l.length ≤ c := by
          rcases HO.out.row.2 with ⟨e, hn⟩ | ⟨g, cap, cur, e, -, -, hnc, -⟩
          · simp at e
          · simp at e; omega
        have hlc2 : (l.length : Int) ≤ (c : Int) := by omega
        have HAD : Hid (∀ W, Tch [] wr W → ∀ j, j < l.length → W.cell? (ad.add j) = some (.int .u64 (l.getD j 0))) := Lib.hid (fun W t j hj => by
          obtain ⟨ad', e1, e2⟩ := (HU.out.tch t).cell j hj
          obtain rfl := Option.some.inj e1
          exact e2)
        by_cases hcl : c = l.length
        · subst hcl
          clear hlc hlc2
          have HA1 := Lib.hid (fun (W : World) (g : Nat) (ho : Own wr W 26 1 (.slice (some ⟨g, 0, none⟩) 0 0) 0 (uV [])) => put_app1 (l := l) (k := l.length) (c := l.length) (so := some ad) ho (by simp) HL.out (fun j hj => ⟨_, rfl, HAD.out W ho.t j hj⟩))
          have HA2 := Lib.hid (fun (W : World) (a5 : Option Addr) (c5 nb : Nat) (ho : Own wr W 26 1 (.slice a5 l.length c5) l.length (uV (l.take l.length))) (hc : W.cell? ⟨nb, 0, none⟩ = some (.int .u64 n)) => put_app2 (l := l) (k := l.length) (n := n) ho (by simp) HL.out hc)
          have HA3 := Lib.hid (fun (W : World) (a6 : Option Addr) (c6 : Nat) (ho : Own wr W 26 1 (.slice a6 (l.length + 1) c6) (l.length + 1) (uV (l.take l.length ++ [n]))) => put_app3 (l := l) (k := l.length) (c := 0) (m := 0) (n := n) (so := some ad) ho (by simp) HL.out (by simp) (fun j hj => absurd hj (by omega)))
          go_wp2_with fail
          go_region_held3 (fun (_ : World) => True) (exact trivial) (first
            | (refine step_append_run rfl (.tmp 33) (.tmp 36) 31 rfl (.slice (some ⟨wr.heap.size, 0, none⟩) 0 0) (.slice (some ad) l.length l.length) (by simp [Act.eval, Act.put]) (by simp [Act.eval, Act.put]) (HA1.out (wr.drew.alloc (.cells #[] 26)) wr.heap.size (Own.new (Tch.refl [] wr).drew _ _)) ?_
               rintro v' w5 ⟨a5, c5, rfl, ho, ht⟩
               have HO5 := Lib.hid ho
               clear ho ht)
            | (refine step_append_run rfl (.tmp 33) (.tmp 36) 31 rfl (.slice (some ⟨wr.heap.size, 0, none⟩) 0 0) (.slice (some ad) l.length l.length) (by simp [Act.eval, Act.put]) (by simp [Act.eval, Act.put]) (HA1.out ((wr.drew.alloc (.cells #[] 26)).alloc (.cells #[.int .u64 n] 26)) wr.heap.size ((Own.new (Tch.refl [] wr).drew _ _).tch ((Tch.refl _ _).alloc _))) ?_
               rintro v' w5 ⟨a5, c5, rfl, ho, ht⟩
               have HO5 := Lib.hid ho
               have HN5 := Lib.hid (put_nB ht)
               clear ho ht)
            | (refine step_append_run rfl (.tmp 33) (.tmp 36) 31 rfl (.slice (some ⟨wr.heap.size + 1, 0, none⟩) 0 0) (.slice (some ad) l.length l.length) (by simp [Act.eval, Act.put]) (by simp [Act.eval, Act.put]) (HA1.out ((wr.drew.alloc (.cells #[.int .u64 n] 26)).alloc (.cells #[] 26)) (wr.heap.size + 1) (put_oC wr n)) ?_
               rintro v' w5 ⟨a5, c5, rfl, ho, ht⟩
               have HO5 := Lib.hid ho
               have HN5 := Lib.hid (put_nC ht)
               clear ho ht)
            | (refine step_append_run rfl (.tmp 37) (.tmp 39) 31 rfl (.slice a5 l.length c5) (.slice (some ⟨w5.heap.size, 0, none⟩) 1 1) (by simp [Act.eval, Act.put]) (by simp [Act.eval, Act.put]) (HA2.out (w5.alloc (.cells #[.int .u64 n] 26)) a5 c5 w5.heap.size (HO5.out.tch ((Tch.refl _ _).alloc _)) (put_nA w5 n)) ?_
               rintro v' w6 ⟨a6, c6, rfl, ho⟩
               have HO6 := Lib.hid ho
               clear ho)
            | (refine step_append_run rfl (.tmp 37) (.tmp 39) 31 rfl (.slice a5 l.length c5) (.slice (some ⟨wr.heap.size + 1, 0, none⟩) 1 1) (by simp [Act.eval, Act.put]) (by simp [Act.eval, Act.put]) (HA2.out w5 a5 c5 (wr.heap.size + 1) HO5.out HN5.out) ?_
               rintro v' w6 ⟨a6, c6, rfl, ho⟩
               have HO6 := Lib.hid ho
               clear ho)
            | (refine step_append_run rfl (.tmp 37) (.tmp 39) 31 rfl (.slice a5 l.length c5) (.slice (some ⟨wr.heap.size, 0, none⟩) 1 1) (by simp [Act.eval, Act.put]) (by simp [Act.eval, Act.put]) (HA2.out w5 a5 c5 wr.heap.size HO5.out HN5.out) ?_
               rintro v' w6 ⟨a6, c6, rfl, ho⟩
               have HO6 := Lib.hid ho
               clear ho)
            | (refine step_append_run rfl (.tmp 40) (.tmp 43) 31 rfl (.slice a6 (l.length + 1) c6) (.slice (some ad) 0 0) (by simp [Act.eval, Act.put]) (by simp [Act.eval, Act.put]) (HA3.out w6 a6 c6 HO6.out) ?_
               rintro v' w7 ⟨a7, c7, rfl, ho⟩
               have HO7 := Lib.hid ho
               clear ho))
          all_goals (go_wp2_with fail; go_ret; exact put_end HO.out HPE.out HO7.out)
        · have hcl2 : ¬ l.length = c := fun e => hcl e.symm
          have hcl3 : (l.length : Int) < (c : Int) := by omega
          have hcl4 : ((l.length : Int) == (c : Int)) = false := beq_eq_false_iff_ne.2 (by omega)
          clear hlc
          have HA1 := Lib.hid (fun (W : World) (g : Nat) (ho : Own wr W 26 1 (.slice (some ⟨g, 0, none⟩) 0 0) 0 (uV [])) => put_app1 (l := l) (k := l.length) (c := c) (so := some ad) ho (by simp) HL.out (fun j hj => ⟨_, rfl, HAD.out W ho.t j hj⟩))
          have HA2 := Lib.hid (fun (W : World) (a5 : Option Addr) (c5 nb : Nat) (ho : Own wr W 26 1 (.slice a5 l.length c5) l.length (uV (l.take l.length))) (hc : W.cell? ⟨nb, 0, none⟩ = some (.int .u64 n)) => put_app2 (l := l) (k := l.length) (n := n) ho (by simp) HL.out hc)
          have HA3 := Lib.hid (fun (W : World) (a6 : Option Addr) (c6 : Nat) (ho : Own wr W 26 1 (.slice a6 (l.length + 1) c6) (l.length + 1) (uV (l.take l.length ++ [n]))) => put_app3 (l := l) (k := l.length) (c := c - l.length) (m := 0) (n := n) (so := some (ad.add l.length)) ho (by simp) HL.out (by simp) (fun j hj => absurd hj (by omega)))
          go_wp2_with fail
          go_region_held3 (fun (_ : World) => True) (exact trivial) (first
            | (refine step_append_run rfl (.tmp 33) (.tmp 36) 31 rfl (.slice (some ⟨wr.heap.size, 0, none⟩) 0 0) (.slice (some ad) l.length c) (by simp [Act.eval, Act.put]) (by simp [Act.eval, Act.put]) (HA1.out (wr.drew.alloc (.cells #[] 26)) wr.heap.size (Own.new (Tch.refl [] wr).drew _ _)) ?_
               rintro v' w5 ⟨a5, c5, rfl, ho, ht⟩
               have HO5 := Lib.hid ho
               clear ho ht)
            | (refine step_append_run rfl (.tmp 33) (.tmp 36) 31 rfl (.slice (some ⟨wr.heap.size, 0, none⟩) 0 0) (.slice (some ad) l.length c) (by simp [Act.eval, Act.put]) (by simp [Act.eval, Act.put]) (HA1.out ((wr.drew.alloc (.cells #[] 26)).alloc (.cells #[.int .u64 n] 26)) wr.heap.size ((Own.new (Tch.refl [] wr).drew _ _).tch ((Tch.refl _ _).alloc _))) ?_
               rintro v' w5 ⟨a5, c5, rfl, ho, ht⟩
               have HO5 := Lib.hid ho
               have HN5 := Lib.hid (put_nB ht)
               clear ho ht)
            | (refine step_append_run rfl (.tmp 33) (.tmp 36) 31 rfl (.slice (some ⟨wr.heap.size + 1, 0, none⟩) 0 0) (.slice (some ad) l.length c) (by simp [Act.eval, Act.put]) (by simp [Act.eval, Act.put]) (HA1.out ((wr.drew.alloc (.cells #[.int .u64 n] 26)).alloc (.cells #[] 26)) (wr.heap.size + 1) (put_oC wr n)) ?_
               rintro v' w5 ⟨a5, c5, rfl, ho, ht⟩
               have HO5 := Lib.hid ho
               have HN5 := Lib.hid (put_nC ht)
               clear ho ht)
            | (refine step_append_run rfl (.tmp 37) (.tmp 39) 31 rfl (.slice a5 l.length c5) (.slice (some ⟨w5.heap.size, 0, none⟩) 1 1) (by simp [Act.eval, Act.put]) (by simp [Act.eval, Act.put]) (HA2.out (w5.alloc (.cells #[.int .u64 n] 26)) a5 c5 w5.heap.size (HO5.out.tch ((Tch.refl _ _).alloc _)) (put_nA w5 n)) ?_
               rintro v' w6 ⟨a6, c6, rfl, ho⟩
               have HO6 := Lib.hid ho
               clear ho)
            | (refine step_append_run rfl (.tmp 37) (.tmp 39) 31 rfl (.slice a5 l.length c5) (.slice (some ⟨wr.heap.size + 1, 0, none⟩) 1 1) (by simp [Act.eval, Act.put]) (by simp [Act.eval, Act.put]) (HA2.out w5 a5 c5 (wr.heap.size + 1) HO5.out HN5.out) ?_
               rintro v' w6 ⟨a6, c6, rfl, ho⟩
               have HO6 := Lib.hid ho
               clear ho)
            | (refine step_append_run rfl (.tmp 37) (.tmp 39) 31 rfl (.slice a5 l.length c5) (.slice (some ⟨wr.heap.size, 0, none⟩) 1 1) (by simp [Act.eval, Act.put]) (by simp [Act.eval, Act.put]) (HA2.out w5 a5 c5 wr.heap.size HO5.out HN5.out) ?_
               rintro v' w6 ⟨a6, c6, rfl, ho⟩
               have HO6 := Lib.hid ho
               clear ho)
            | (refine step_append_run rfl (.tmp 40) (.tmp 43) 31 rfl (.slice a6 (l.length + 1) c6) (.slice (some (ad.add l.length)) 0 (c - l.length)) (by simp [Act.eval, Act.put]) (by simp [Act.eval, Act.put, hcl]) (HA3.out w6 a6 c6 HO6.out) ?_
               rintro v' w7 ⟨a7, c7, rfl, ho⟩
               have HO7 := Lib.hid ho
               clear ho))
          all_goals (go_wp2_with fail; go_ret; exact put_end HO.out HPE.out HO7.out)

end Go.Proofs.YtcolffccbmpndaaGreatDoor

namespace Go.Proofs.YtcolffccbmpndaaGreatDoor
open Go.RowKit
set_option maxRecDepth 100000

def encH : Hop → List Int
  | none => [104, 0]
  | some b => [98, b]
def enc (p : Path) : List Int := p.flatMap encH
theorem encH_len (h : Hop) : (encH h).length = 2 := by cases h <;> rfl
theorem enc_cons (h : Hop) (p : Path) : enc (h :: p) = encH h ++ enc p := by simp [enc]
theorem enc_len (p : Path) : (enc p).length = 2 * p.length := by
  induction p with
  | nil => rfl
  | cons h p ih => rw [enc_cons, List.length_append, ih, encH_len, List.length_cons]; omega
theorem encH_inj {g h : Hop} (e : encH g = encH h) : g = h := by
  cases g <;> cases h <;> simp_all [encH]
theorem enc_inj : ∀ {p q : Path}, enc p = enc q → p = q
  | [], [], _ => rfl
  | [], h :: q, e => by have := congrArg List.length e; simp [enc_len] at this
  | g :: p, [], e => by have := congrArg List.length e; simp [enc_len] at this
  | g :: p, h :: q, e => by
    rw [enc_cons, enc_cons] at e
    obtain ⟨e1, e2⟩ := List.append_inj e (by rw [encH_len, encH_len])
    rw [encH_inj e1, enc_inj e2]
theorem enc_take : ∀ (p : Path) (k : Nat), (enc p).take (2 * k) = enc (p.take k)
  | p, 0 => by simp [enc]
  | [], k + 1 => by simp [enc]
  | h :: p, k + 1 => by
    rw [enc_cons, List.take_succ_cons, enc_cons, ← enc_take p k]
    rw [show 2 * (k + 1) = (encH h).length + 2 * k by rw [encH_len]; omega, List.take_length_add_append]
theorem wayB_enc (f : Nat → Bool) (l : List Int) : wayB f l l.length = enc (pathOf f l) := by
  unfold wayB enc pathOf
  rw [List.flatMap_map]
  congr 1
  funext i
  unfold hopAt
  cases f i <;> simp [encH]

/-- All bytes of a path are bytes. -/
def u8P (p : Path) : Prop := ∀ b, some b ∈ p → 0 ≤ b ∧ b < 256
theorem u8P_pathOf {f : Nat → Bool} {l : List Int} (h : ∀ x ∈ l, 0 ≤ x ∧ x < 256) : u8P (pathOf f l) := by
  intro b hb
  unfold pathOf at hb
  obtain ⟨i, hi, e⟩ := List.mem_map.1 hb
  have hi2 := List.mem_range.1 hi
  unfold hopAt at e
  split at e
  · simp at e
  · obtain rfl := Option.some.inj e
    exact h _ (by simp [List.getD, List.getElem?_eq_getElem hi2])
theorem u8P_take {p : Path} (h : u8P p) (k : Nat) : u8P (p.take k) := fun b hb => h b (List.mem_of_mem_take hb)
theorem u8P_pre {p q : Path} (h : u8P p) (hq : q <+: p) : u8P q := fun b hb => h b (hq.subset hb)
theorem enc_u8 {p : Path} (h : u8P p) : ∀ x ∈ enc p, 0 ≤ x ∧ x < 256 := by
  intro x hx
  unfold enc at hx
  obtain ⟨g, hg, e⟩ := List.mem_flatMap.1 hx
  cases g with
  | none => simp [encH] at e; omega
  | some b =>
    have := h b hg
    simp [encH] at e
    omega
/-- A path as a text. -/
def txt (p : Path) : List UInt8 := toB (enc p)
theorem txt_len (p : Path) : (txt p).length = 2 * p.length := by unfold txt toB; rw [List.length_map, enc_len]
theorem txt_inj {p q : Path} (hp : u8P p) (hq : u8P q) (h : txt p = txt q) : p = q := enc_inj (toB_inj (enc_u8 hp) (enc_u8 hq) h)
theorem txt_take (p : Path) (k : Nat) : (txt p).take (2 * k) = txt (p.take k) := by
  unfold txt toB
  rw [← List.map_take, enc_take]
theorem txt_nil : txt [] = [] := rfl

/-! A set of paths as the map has it. -/
section
open Go.Maps
def litP (p : Path) : Lit := .string (txt p)
theorem litP_inj {p q : Path} (hp : u8P p) (hq : u8P q) (h : litP p = litP q) : p = q := by
  unfold litP at h
  injection h with h
  exact txt_inj hp hq h
theorem foldl_addKey : ∀ (xs acc : List Lit), (∀ x ∈ xs, WideAt.IsKeyLit x) → acc.Nodup → (xs.foldl addKey acc).Nodup ∧ ∀ y, y ∈ xs.foldl addKey acc ↔ y ∈ acc ∨ y ∈ xs
  | [], acc, _, h => ⟨h, fun y => by simp⟩
  | x :: xs, acc, hk, h => by
    have hx := hk x (by simp)
    have hstep : (addKey acc x).Nodup ∧ ∀ y, y ∈ addKey acc x ↔ y ∈ acc ∨ y = x := by
      unfold addKey
      split
      · rename_i hh
        obtain ⟨z, hz, e⟩ := List.any_eq_true.1 hh
        obtain rfl := (WideAt.sameKey_iff hx).1 e
        exact ⟨h, fun y => ⟨.inl, fun h => by rcases h with h | rfl; exact h; exact hz⟩⟩
      · rename_i hh
        have hn : x ∉ acc := fun hm => hh (List.any_eq_true.2 ⟨x, hm, (WideAt.sameKey_iff hx).2 rfl⟩)
        refine ⟨?_, fun y => by simp⟩
        rw [List.nodup_append]
        exact ⟨h, by simp, fun a ha b hb e => hn (by rw [List.mem_singleton] at hb; rw [← hb, ← e]; exact ha)⟩
    obtain ⟨h1, h2⟩ := foldl_addKey xs (addKey acc x) (fun y hy => hk y (by simp [hy])) hstep.1
    refine ⟨h1, fun y => ?_⟩
    rw [List.foldl_cons, h2 y, hstep.2 y, or_assoc, List.mem_cons]
theorem litP_key (p : Path) : WideAt.IsKeyLit (litP p) := by
  simp [litP, WideAt.IsKeyLit]
/-- How many beginnings there are. -/
theorem nodes_count {H : Type} (u : DataW H) {st : Stand} (hu : ∀ x ∈ st, u8P x.1) {xs : List Path} (hx : ∀ q, q ∈ xs ↔ isNode st q) : Maps.size (setOf u (xs.map litP)) = (nodesS st).length := by
  have hu8 : ∀ q, isNode st q → u8P q := fun q h => by
    rcases h with rfl | ⟨x, hx, hq⟩
    · intro b hb; simp at hb
    · exact u8P_pre (hu x hx) hq
  have hk : ∀ x ∈ xs.map litP, WideAt.IsKeyLit x := fun x h => by
    obtain ⟨p, -, rfl⟩ := List.mem_map.1 h
    exact litP_key p
  rw [size_setOf u _ hk]
  obtain ⟨h1, h2⟩ := foldl_addKey (xs.map litP) [] hk List.nodup_nil
  have h3 : ((nodesS st).map litP).Nodup := by
    have hn := nodesS_nodup st
    unfold List.Nodup at hn ⊢
    rw [List.pairwise_map]
    exact hn.imp_of_mem (fun {p q} hp hq hne e => hne (litP_inj (hu8 p ((nodesS_mem st p).1 hp)) (hu8 q ((nodesS_mem st q).1 hq)) e))
  have h4 : ((xs.map litP).foldl addKey []).Perm ((nodesS st).map litP) := (List.perm_ext_iff_of_nodup h1 h3).2 (fun y => by
    rw [h2 y]
    simp only [List.not_mem_nil, false_or, List.mem_map, hx, nodesS_mem])
  rw [h4.length_eq, List.length_map]
end

/-- The beginnings met so far. -/
def pathsTo (st : Stand) (i : Nat) : List Path := (st.take i).flatMap (fun x => initsP x.1)
theorem pathsTo_succ (st : Stand) {i : Nat} (hi : i < st.length) : pathsTo st (i + 1) = pathsTo st i ++ initsP st[i].1 := by
  unfold pathsTo
  rw [List.take_succ_eq_append_getElem hi, List.flatMap_append]
  simp
theorem initsP_take (p : Path) (k : Nat) : (List.range (k + 1)).map (fun j => p.take j) = (List.range k).map (fun j => p.take j) ++ [p.take k] := by
  rw [List.range_succ, List.map_append]; rfl
theorem paths_all (st : Stand) (q : Path) : q ∈ pathsTo st st.length ++ [[]] ↔ isNode st q := by
  unfold pathsTo isNode
  rw [List.take_length, List.mem_append, List.mem_flatMap, List.mem_singleton]
  constructor
  · rintro (⟨x, hx, h⟩ | h)
    · exact .inr ⟨x, hx, mem_inits.1 h⟩
    · exact .inl h
  · rintro (h | ⟨x, hx, h⟩)
    · exact .inr h
    · exact .inl ⟨x, hx, mem_inits.2 h⟩

end Go.Proofs.YtcolffccbmpndaaGreatDoor

namespace Go.Proofs.YtcolffccbmpndaaGreatDoor
open Go.RowKit Go.Deep
set_option maxRecDepth 100000

/-- A prefix with holes and a number. -/
structure HeldV where
  l : List Int
  ba : Option Addr
  bc : Nat
  hv : Value
  n : Nat
  f : Nat → Bool
  id : Int
def heC (x : HeldV) : List Value := [.slice x.ba x.l.length x.bc, x.hv, .int .u64 x.id]
def hePath (x : HeldV) : Path := pathOf (fun i => decide (i < x.n) && x.f i) x.l
def standV (A : List HeldV) : Stand := A.map (fun x => (hePath x, x.id))

/-- Blocks of S bear no row of this type. -/
def Sep (w : World) (S : List Nat) (e : TypeId) : Prop := ∀ g ∈ S, ∃ o, w.heap[g]? = some o ∧ ∀ cur fr, o ≠ .cells cur e fr
theorem sep_row {w : World} {base : Nat} {e e' : TypeId} {sz : Nat} {v : Value} {n : Nat} {xs : List Value} (h : w.ownsRow base e sz v n xs) (hne : e ≠ e') : Sep w v.ownBlock.toList e' := fun g hg => by
  obtain ⟨cur, h1⟩ := ownsRow_block h (by simpa [Option.mem_toList] using hg : v.ownBlock = some g)
  exact ⟨_, h1, fun cur fr e => by simp at e; exact hne e.2.1⟩
theorem sep_obj {w : World} {g : Nat} {cs : Array Value} {e e' : TypeId} {fr : Nat × Nat} (h : w.heap[g]? = some (.cells cs e fr)) (hne : e ≠ e') : Sep w [g] e' := fun k hk => by
  obtain rfl := List.mem_singleton.1 hk
  exact ⟨_, h, fun cur fr e => by simp at e; exact hne e.2.1⟩
theorem ownsRow_off {w w' : World} {base : Nat} {e : TypeId} {sz : Nat} {v : Value} {n : Nat} {xs : List Value} {S : List Nat} (h : w.ownsRow base e sz v n xs) (t : Tch S w w') (hS : Sep w S e) : w'.ownsRow base e sz v n xs :=
  ownsRow_tch h t (fun g hg hm => by
    obtain ⟨cur, h1⟩ := ownsRow_block h hg
    obtain ⟨o, h2, h3⟩ := hS g hm
    rw [h1] at h2
    exact h3 cur (0, 0) (Option.some.inj h2).symm)
/-- What came in stays, where only blocks that are new were written. -/
theorem tch_new {w w1 w' : World} {S : List Nat} (t : Tch [] w w1) (k : Tch S w1 w') (hS : ∀ g ∈ S, w.heap.size ≤ g) : Tch [] w w' :=
  ⟨k.os.trans t.os, k.output.trans t.output, Nat.le_trans t.size k.size, fun g hg _ => by
    rw [k.block g (Nat.lt_of_lt_of_le hg t.size) (fun hm => by have := hS g hm; omega), t.block g hg (by simp)]⟩
theorem own_new {w wr : World} {e : TypeId} {sz : Nat} {v : Value} {n : Nat} {xs : List Value} (h : Own w wr e sz v n xs) : ∀ g ∈ v.ownBlock.toList, w.heap.size ≤ g := fun g hg =>
  (h.row.lt g (by simpa [Option.mem_toList] using hg)).1

structure HeOk (w wr : World) (x : HeldV) : Prop where
  by0 : By w x.l x.ba x.bc
  len : x.l.length ≤ 20000
  row : wr.ownsRow w.heap.size 4 1 x.hv x.n (bl x.n x.f)
  n : x.n ≤ 10000
theorem HeOk.off {w wr w' : World} {x : HeldV} {S : List Nat} (h : HeOk w wr x) (t : Tch S wr w') (hS : Sep wr S 4) : HeOk w w' x := ⟨h.by0, h.len, ownsRow_off h.row t hS, h.n⟩
theorem sep_nil (w : World) (e : TypeId) : Sep w [] e := fun g hg => by simp at hg
theorem HeOk.tch {w wr w' : World} {x : HeldV} (h : HeOk w wr x) (t : Tch [] wr w') : HeOk w w' x := h.off t (sep_nil _ _)
theorem HeOk.blAt {w wr : World} {x : HeldV} (h : HeOk w wr x) : BlAt wr x.hv x.n x.f := by
  obtain ⟨a, c, e⟩ := ownsRow_slice h.row
  have hr := h.row
  rw [e] at hr ⊢
  refine ⟨a, c, rfl, fun hn => ?_⟩
  obtain ⟨g, cap, e2, -⟩ := ownsRow_value hr hn
  simp only [Value.slice.injEq, true_and] at e2
  obtain ⟨rfl, rfl⟩ := e2
  refine ⟨_, rfl, fun j hj => (own_cell hr ?_).2⟩
  unfold bl
  simp [hj]

/-- Between two steps. -/
structure MidS (w wr : World) (L : List StepD) (k : Nat) (aa : Option Addr) (ac : Nat) (A : List HeldV) (oa : Option Addr) (oc : Nat) (outs : List (TTold × Value)) : Prop where
  all : Own w wr 67 3 (.slice aa A.length ac) A.length (A.flatMap heC)
  he : ∀ x ∈ A, HeOk w wr x
  st : standV A = standT (L.take k)
  out : Own w wr 33 4 (.slice oa k oc) k (outs.flatMap tolC)
  ids : ∀ p ∈ outs, wr.ownsRow w.heap.size 26 1 p.2 p.1.ids.length (uV p.1.ids)
  told : outs.map Prod.fst = runT [] (L.take k)
theorem MidS.tch {w wr w' : World} {L : List StepD} {k : Nat} {aa : Option Addr} {ac : Nat} {A : List HeldV} {oa : Option Addr} {oc : Nat} {outs : List (TTold × Value)} (h : MidS w wr L k aa ac A oa oc outs) (t : Tch [] wr w') : MidS w w' L k aa ac A oa oc outs :=
  ⟨h.all.tch t, fun x hx => (h.he x hx).tch t, h.st, h.out.tch t, fun p hp => ownsRow_off (h.ids p hp) t (sep_nil _ _), h.told⟩
theorem MidS.olen {w wr : World} {L : List StepD} {k : Nat} {aa : Option Addr} {ac : Nat} {A : List HeldV} {oa : Option Addr} {oc : Nat} {outs : List (TTold × Value)} (h : MidS w wr L k aa ac A oa oc outs) (hk : k ≤ L.length) : outs.length = k := by
  have := congrArg List.length h.told
  rw [List.length_map, runT_len, List.length_take] at this
  omega
/-- A row that is none of ours is written. -/
theorem MidS.off {w wr w' : World} {L : List StepD} {k : Nat} {aa : Option Addr} {ac : Nat} {A : List HeldV} {oa : Option Addr} {oc : Nat} {outs : List (TTold × Value)} {S : List Nat} (h : MidS w wr L k aa ac A oa oc outs) (t : Tch S wr w') (hn : ∀ g ∈ S, w.heap.size ≤ g) (h1 : Sep wr S 67) (h2 : Sep wr S 4) (h3 : ∀ g, (Value.slice oa k oc).ownBlock = some g → g ∉ S) (h4 : ∀ p ∈ outs, ∀ g, p.2.ownBlock = some g → g ∉ S) : MidS w w' L k aa ac A oa oc outs :=
  ⟨⟨tch_new h.all.t t hn, ownsRow_off h.all.row t h1⟩, fun x hx => (h.he x hx).off t h2, h.st, ⟨tch_new h.out.t t hn, ownsRow_tch h.out.row t h3⟩, fun p hp => ownsRow_tch (h.ids p hp) t (h4 p hp), h.told⟩

/-- A step taken, what it tells not yet written down. -/
structure DoneS (w wk : World) (L : List StepD) (k : Nat) (p : StepD) (aa : Option Addr) (ac : Nat) (A : List HeldV) (oa : Option Addr) (oc : Nat) (outs : List (TTold × Value)) (t : TTold) (vi : Value) : Prop where
  all : Own w wk 67 3 (.slice aa A.length ac) A.length (A.flatMap heC)
  he : ∀ x ∈ A, HeOk w wk x
  st : standV A = (stepT (standT (L.take k)) p).1
  out : Own w wk 33 4 (.slice oa k oc) k (outs.flatMap tolC)
  ids : ∀ p ∈ outs, wk.ownsRow w.heap.size 26 1 p.2 p.1.ids.length (uV p.1.ids)
  told : outs.map Prod.fst = runT [] (L.take k)
  vid : wk.ownsRow w.heap.size 26 1 vi t.ids.length (uV t.ids)
  eq : t = (stepT (standT (L.take k)) p).2
theorem DoneS.tch {w wk w' : World} {L : List StepD} {k : Nat} {p : StepD} {aa : Option Addr} {ac : Nat} {A : List HeldV} {oa : Option Addr} {oc : Nat} {outs : List (TTold × Value)} {t : TTold} {vi : Value} (h : DoneS w wk L k p aa ac A oa oc outs t vi) (k0 : Tch [] wk w') : DoneS w w' L k p aa ac A oa oc outs t vi :=
  ⟨h.all.tch k0, fun x hx => (h.he x hx).tch k0, h.st, h.out.tch k0, fun p hp => ownsRow_off (h.ids p hp) k0 (sep_nil _ _), h.told, ownsRow_off h.vid k0 (sep_nil _ _), h.eq⟩
theorem DoneS.next {w wk w9 : World} {L : List StepD} {k : Nat} {p : StepD} {aa : Option Addr} {ac : Nat} {A : List HeldV} {oa : Option Addr} {oc : Nat} {outs : List (TTold × Value)} {t : TTold} {vi : Value} {g9 c9 : Nat} (h : DoneS w wk L k p aa ac A oa oc outs t vi) (hp : L.getD k default = p) (hk : k < L.length)
    (n1 : Own w w9 33 4 (.slice (some ⟨g9, 0, none⟩) (k + 1) c9) (k + 1) (outs.flatMap tolC ++ [.bool t.ok, vi, .int .i64 t.many, .int .i64 t.nodes])) (n4 : Tch (Value.slice oa k oc).ownBlock.toList wk w9) : MidS w w9 L (k + 1) aa ac A (some ⟨g9, 0, none⟩) c9 (outs ++ [(t, vi)]) := by
  have hts := take_step L hk
  rw [hp] at hts
  have hs : ∀ e', 33 ≠ e' → Sep wk (Value.slice oa k oc).ownBlock.toList e' := fun e' => sep_row h.out.row
  refine ⟨⟨n1.t, ownsRow_off h.all.row n4 (hs _ (by decide))⟩, fun x hx => (h.he x hx).off n4 (hs _ (by decide)), by rw [h.st, hts.1], ?_, fun x hx => ?_, ?_⟩
  · rw [List.flatMap_append]
    exact n1
  · rcases List.mem_append.1 hx with hx | hx
    · exact ownsRow_off (h.ids x hx) n4 (hs _ (by decide))
    · rw [List.mem_singleton.1 hx]
      exact ownsRow_off h.vid n4 (hs _ (by decide))
  · rw [List.map_append, h.told, hts.2, h.eq]; rfl

/-- One more is put in. -/
theorem MidS.add {w wr w' : World} {L : List StepD} {k : Nat} {aa a' : Option Addr} {ac c' : Nat} {A : List HeldV} {oa : Option Addr} {oc : Nat} {outs : List (TTold × Value)} {p : StepD} {x : HeldV} (h : MidS w wr L k aa ac A oa oc outs) (t : Tch (Value.slice aa A.length ac).ownBlock.toList wr w') (ho : Own w w' 67 3 (.slice a' (A.length + 1) c') (A.length + 1) (A.flatMap heC ++ heC x)) (hx : HeOk w wr x)
    (he : stepT (standT (L.take k)) p = (standT (L.take k) ++ [(hePath x, x.id)], ⟨true, [], 0, 0⟩)) : DoneS w w' L k p a' c' (A ++ [x]) oa oc outs ⟨true, [], 0, 0⟩ (.slice none 0 0) := by
  have hs : ∀ e', 67 ≠ e' → Sep wr (Value.slice aa A.length ac).ownBlock.toList e' := fun e' => sep_row h.all.row
  have hn := own_new h.all
  refine ⟨?_, fun y hy => ?_, ?_, ⟨tch_new h.out.t t hn, ownsRow_off h.out.row t (hs _ (by decide))⟩, fun q hq => ownsRow_off (h.ids q hq) t (hs _ (by decide)), h.told, World.ownsRow_nil _ _ _ _, by rw [he]⟩
  · rw [List.length_append, List.length_singleton, List.flatMap_append]
    simpa using ho
  · rcases List.mem_append.1 hy with hy | hy
    · exact (h.he y hy).off t (hs _ (by decide))
    · rw [List.mem_singleton.1 hy]; exact hx.off t (hs _ (by decide))
  · rw [he]
    unfold standV
    rw [List.map_append]
    congr 1
    exact h.st

/-- Some are taken out. -/
theorem MidS.cut {w wr : World} {L : List StepD} {k : Nat} {aa a' : Option Addr} {ac c' : Nat} {A R : List HeldV} {oa : Option Addr} {oc : Nat} {outs : List (TTold × Value)} {p : StepD} (h : MidS w wr L k aa ac A oa oc outs) (ho : Own w wr 67 3 (.slice a' R.length c') R.length (R.flatMap heC)) (hR : ∀ x ∈ R, x ∈ A)
    (he : stepT (standT (L.take k)) p = (standV R, ⟨true, [], 0, 0⟩)) : DoneS w wr L k p a' c' R oa oc outs ⟨true, [], 0, 0⟩ (.slice none 0 0) :=
  ⟨ho, fun x hx => h.he x (hR x hx), by rw [he], h.out, h.ids, h.told, World.ownsRow_nil _ _ _ _, by rw [he]⟩
/-- Nothing but a look. -/
theorem MidS.look {w wr : World} {L : List StepD} {k : Nat} {aa : Option Addr} {ac : Nat} {A : List HeldV} {oa : Option Addr} {oc : Nat} {outs : List (TTold × Value)} {p : StepD} {t : TTold} {vi : Value} (h : MidS w wr L k aa ac A oa oc outs) (hv : wr.ownsRow w.heap.size 26 1 vi t.ids.length (uV t.ids))
    (he : stepT (standT (L.take k)) p = (standT (L.take k), t)) : DoneS w wr L k p aa ac A oa oc outs t vi :=
  ⟨h.all, h.he, by rw [he]; exact h.st, h.out, h.ids, h.told, hv, by rw [he]⟩

theorem obj_off {w w' : World} {S : List Nat} {b : Nat} {cs : Array Value} {e : TypeId} {fr : Nat × Nat} (h : w.heap[b]? = some (.cells cs e fr)) (t : Tch S w w') (hS : Sep w S e) : w'.heap[b]? = some (.cells cs e fr) :=
  t.obj h (fun hm => let ⟨_, h1, h2⟩ := hS _ hm; h2 _ _ (Option.some.inj (h1.symm.trans h)))
theorem he_at {w wr : World} {a : Option Addr} {c : Nat} {A : List HeldV} (h : Own w wr 67 3 (.slice a A.length c) A.length (A.flatMap heC)) {i : Nat} {x : HeldV} (hx : A[i]? = some x) : ∃ g, a = some ⟨g, 0, none⟩ ∧ g < wr.heap.size ∧ ∀ j, j < 3 → wr.cell? ⟨g, i * 3 + j, none⟩ = (heC x)[j]? := by
  have hi : i < A.length := (List.getElem?_eq_some_iff.1 hx).1
  have hrow := h.row
  obtain ⟨g, cap, e, -, hg⟩ := ownsRow_value hrow (by omega)
  simp only [Value.slice.injEq, true_and] at e
  obtain ⟨rfl, rfl⟩ := e
  refine ⟨g, rfl, hg, fun j hj => ?_⟩
  rw [hrow.cellAt (i * 3 + j) (by omega)]
  exact flat_at heC 3 (fun _ => rfl) A i j x hx hj
theorem he_box {w : World} {b : Nat} {v0 v1 v2 : Value} {e : TypeId} (h : w.heap[b]? = some (.cells #[v0, v1, v2] e (0, 0))) : w.cell? ⟨b, 0, none⟩ = some v0 ∧ w.cell? ⟨b, 1, none⟩ = some v1 ∧ w.cell? ⟨b, 2, none⟩ = some v2 :=
  ⟨by rw [cell_of_row w b 0 _ _ _ h]; rfl, by rw [cell_of_row w b 1 _ _ _ h]; rfl, by rw [cell_of_row w b 2 _ _ _ h]; rfl⟩

/-- What the kinds of steps do. -/
theorem stepT_put (st : Stand) (p : StepD) {f : Nat → Bool} (h : p.kind = 0 ∨ p.kind = 1) (hd : holesD p = some f) : stepT st p = (st ++ [(pathOf f p.bytes, p.id)], ⟨true, [], 0, 0⟩) := by
  unfold stepT; rw [if_pos h, hd]
theorem stepT_out (st : Stand) (p : StepD) {f : Nat → Bool} (h : p.kind = 2 ∨ p.kind = 3) (hd : holesD p = some f) : stepT st p = (strikeS st (pathOf f p.bytes) p.id, ⟨true, [], 0, 0⟩) := by
  unfold stepT; rw [if_neg (by omega), if_pos h, hd]
theorem stepT_get (st : Stand) (p : StepD) (h : p.kind = 4) : stepT st p = (st, ⟨true, idsFor st p.bytes, (idsFor st p.bytes).length, 0⟩) := by
  unfold stepT; rw [if_neg (by omega), if_neg (by omega), if_pos h]
theorem stepT_nodes (st : Stand) (p : StepD) (h : p.kind = 5) : stepT st p = (st, ⟨true, [], 0, (nodesS st).length⟩) := by
  unfold stepT; rw [if_neg (by omega), if_neg (by omega), if_neg (by omega), if_pos h]

/-- The holes of a step, read. -/
structure HoleS (w wr wx : World) (p : StepD) (ba : Option Addr) (bc : Nat) (ha : Option Addr) (hn hc : Nat) (hf : Nat → Bool) : Prop where
  t : Tch [] wr wx
  sb : wx.heap[wr.heap.size]? = some (.cells #[.int .i64 p.kind, .slice ba p.bytes.length bc, .string (bs p.holes), .int .u64 p.id] 28 (0, 0))
  tb : wx.heap[wr.heap.size + 1]? = some (.cells #[.bool true, .slice none 0 0, .int .i64 0, .int .i64 0] 33 (0, 0))
  row : wx.ownsRow w.heap.size 4 1 (.slice ha hn hc) hn (bl hn hf)
  n : hn ≤ 10000
  hd : holesD p = some (fun i => decide (i < hn) && hf i)
theorem HoleS.start {w wr : World} (t : Tch [] w wr) (p : StepD) (ba : Option Addr) (bc : Nat) (hk : ¬ (p.kind = 1 ∨ p.kind = 3)) : HoleS w wr (((wr.alloc (.cells #[.int .i64 p.kind, .slice ba p.bytes.length bc, .string (bs p.holes), .int .u64 p.id] 28)).alloc (.cells #[.bool true, .slice none 0 0, .int .i64 0, .int .i64 0] 33)).alloc (.cells #[] 4)) p ba bc (some ⟨wr.heap.size + 1 + 1, 0, none⟩) 0 0 (fun _ => false) := by
  refine ⟨(((Tch.refl _ _).alloc _).alloc _).alloc _, ?_, ?_, ?_, by omega, ?_⟩
  · rw [heap_get_alloc, if_neg (by simp <;> omega), heap_get_alloc, if_neg (by simp <;> omega), heap_get_alloc, if_pos rfl]
  · rw [heap_get_alloc, if_neg (by simp <;> omega), heap_get_alloc, if_pos (by simp)]
  · have h := (Own.new ((t.alloc (.cells #[.int .i64 p.kind, .slice ba p.bytes.length bc, .string (bs p.holes), .int .u64 p.id] 28)).alloc (.cells #[.bool true, .slice none 0 0, .int .i64 0, .int .i64 0] 33)) 4 1).row
    simpa [bl] using h
  · unfold holesD
    rw [if_neg hk]
    simp
def Base3 (wr wx : World) (p : StepD) (ba : Option Addr) (bc : Nat) : Prop := Tch [] wr wx ∧ wx.heap[wr.heap.size]? = some (.cells #[.int .i64 p.kind, .slice ba p.bytes.length bc, .string (bs p.holes), .int .u64 p.id] 28 (0, 0)) ∧ wx.heap[wr.heap.size + 1]? = some (.cells #[.bool true, .slice none 0 0, .int .i64 0, .int .i64 0] 33 (0, 0))
theorem base3 (wr : World) (o1 o2 o3 : Obj) : Tch [] wr (((wr.alloc o1).alloc o2).alloc o3) ∧ (((wr.alloc o1).alloc o2).alloc o3).heap[wr.heap.size]? = some o1 ∧ (((wr.alloc o1).alloc o2).alloc o3).heap[wr.heap.size + 1]? = some o2 := by
  refine ⟨(((Tch.refl _ _).alloc _).alloc _).alloc _, ?_, ?_⟩
  · rw [heap_get_alloc, if_neg (by simp <;> omega), heap_get_alloc, if_neg (by simp <;> omega), heap_get_alloc, if_pos rfl]
  · rw [heap_get_alloc, if_neg (by simp <;> omega), heap_get_alloc, if_pos (by simp)]
theorem HoleS.read {w wr wx w2 : World} {p : StepD} {ba ha : Option Addr} {bc hn hc : Nat} {hf : Nat → Bool} (tw : Tch [] w wr) (h : Base3 wr wx p ba bc) (ho : Own wx w2 4 1 (.slice ha hn hc) hn (bl hn hf)) (h2 : hn ≤ 10000) (h3 : ∀ i, hn ≤ i → hf i = false)
    (h4 : (p.holes = [] ∧ hn = 0) ∨ (p.holes.length ≤ 1000 ∧ ∃ L it, (∀ j ∈ L, It.good j) ∧ It.good it ∧ p.holes = pre L ++ it.text ∧ (hn, hf) = (L ++ [it]).foldl stepI (0, fun _ => false))) (hk : p.kind = 1 ∨ p.kind = 3) : HoleS w wr w2 p ba bc ha hn hc hf :=
  ⟨h.1.trans ho.t, ho.t.obj h.2.1 (by simp), ho.t.obj h.2.2 (by simp), ownsRow_low ho.row (Nat.le_trans tw.size h.1.size), h2, by
    unfold holesD
    rw [if_pos hk, (holesOk_of2 h3 h4).1]
    rfl⟩

/-- Where what is told is written: of another block than all that stands. -/
theorem MidS.told_set {w wq wz : World} {L : List StepD} {k : Nat} {aa : Option Addr} {ac : Nat} {A : List HeldV} {oa : Option Addr} {oc tb : Nat} {outs : List (TTold × Value)} {cs : Array Value} (h : MidS w wq L k aa ac A oa oc outs) (hw : w.heap.size ≤ tb) (ho : ∀ g, (Value.slice oa k oc).ownBlock = some g → g ≠ tb) (hb : wq.heap[tb]? = some (.cells cs 33 (0, 0))) (t : Tch [tb] wq wz) : MidS w wz L k aa ac A oa oc outs :=
  h.off t (fun g hg => by rw [List.mem_singleton.1 hg]; exact hw) (sep_obj hb (by decide)) (sep_obj hb (by decide)) (fun g hg hm => ho g hg (List.mem_singleton.1 hm)) (fun p hp g hg hm => by
    obtain rfl := List.mem_singleton.1 hm
    obtain ⟨cur, h1⟩ := ownsRow_block (h.ids p hp) hg
    rw [hb] at h1
    simp at h1)
/-- The numbers gathered for a key. -/
structure GetS (w wr wq : World) (L : List StepD) (k : Nat) (aa : Option Addr) (ac : Nat) (A : List HeldV) (oa : Option Addr) (oc : Nat) (outs : List (TTold × Value)) (p : StepD) (ba : Option Addr) (bc : Nat) (ids : List Int) (ia : Option Addr) (ic : Nat) : Prop where
  mid : MidS w wq L k aa ac A oa oc outs
  t : Tch [] w wq
  sb : wq.heap[wr.heap.size]? = some (.cells #[.int .i64 p.kind, .slice ba p.bytes.length bc, .string (bs p.holes), .int .u64 p.id] 28 (0, 0))
  tb : wq.heap[wr.heap.size + 1]? = some (.cells #[.bool true, .slice ia ids.length ic, .int .i64 0, .int .i64 0] 33 (0, 0))
  ids : Own w wq 26 1 (.slice ia ids.length ic) ids.length (uV ids)
theorem GetS.tch {w wr wq w' : World} {L : List StepD} {k : Nat} {aa : Option Addr} {ac : Nat} {A : List HeldV} {oa : Option Addr} {oc : Nat} {outs : List (TTold × Value)} {p : StepD} {ba : Option Addr} {bc : Nat} {ids : List Int} {ia : Option Addr} {ic : Nat} (h : GetS w wr wq L k aa ac A oa oc outs p ba bc ids ia ic) (t : Tch [] wq w') : GetS w wr w' L k aa ac A oa oc outs p ba bc ids ia ic :=
  ⟨h.mid.tch t, h.t.trans t, t.obj h.sb (by simp), t.obj h.tb (by simp), h.ids.tch t⟩
theorem GetS.set {w wr w6 : World} {L : List StepD} {k : Nat} {aa : Option Addr} {ac : Nat} {A : List HeldV} {oa : Option Addr} {oc : Nat} {outs : List (TTold × Value)} {p : StepD} {ba : Option Addr} {bc : Nat} {ids ids' : List Int} {ia a' : Option Addr} {ic c' : Nat} (h : GetS w wr w6 L k aa ac A oa oc outs p ba bc ids ia ic) (hw : w.heap.size ≤ wr.heap.size) (ho : ∀ g, (Value.slice oa k oc).ownBlock = some g → g < wr.heap.size) (hn : Own w w6 26 1 (.slice a' ids'.length c') ids'.length (uV ids')) : GetS w wr (w6.setCell ⟨wr.heap.size + 1, 1, none⟩ (.slice a' ids'.length c')) L k aa ac A oa oc outs p ba bc ids' a' c' := by
  have t : Tch [wr.heap.size + 1] w6 (w6.setCell ⟨wr.heap.size + 1, 1, none⟩ (.slice a' ids'.length c')) := (Tch.refl _ _).setCell (p := ⟨wr.heap.size + 1, 1, none⟩) (fun _ => by simp) _
  have hz := heap_setCell_same w6 (wr.heap.size + 1) 1 _ _ (.slice a' ids'.length c') h.tb
  have hnew : ∀ g ∈ [wr.heap.size + 1], w.heap.size ≤ g := fun g hg => by rw [List.mem_singleton.1 hg]; omega
  have tw := tch_new h.t t hnew
  refine ⟨h.mid.told_set (by omega) (fun g hg e => by have := ho g hg; omega) h.tb t, tw, t.obj h.sb (by simp), by simpa using hz, ⟨tw, ownsRow_tch hn.row t (fun g hg hm => ?_)⟩⟩
  · obtain rfl := List.mem_singleton.1 hm
    obtain ⟨cur, h1⟩ := ownsRow_block hn.row hg
    rw [h.tb] at h1
    simp at h1
theorem MidS.ob {w wr : World} {L : List StepD} {k : Nat} {aa : Option Addr} {ac : Nat} {A : List HeldV} {oa : Option Addr} {oc : Nat} {outs : List (TTold × Value)} (h : MidS w wr L k aa ac A oa oc outs) : ∀ g, (Value.slice oa k oc).ownBlock = some g → g < wr.heap.size := fun g hg => (h.out.row.lt g hg).2
/-- What is told is finished. -/
theorem MidS.told_done {w wr wq : World} {L : List StepD} {k : Nat} {aa : Option Addr} {ac : Nat} {A : List HeldV} {oa : Option Addr} {oc : Nat} {outs : List (TTold × Value)} {p : StepD} {v0 v1 v2 v3 : Value} {t : TTold} {vi : Value} {i : Nat} {u : Value} (h : MidS w wq L k aa ac A oa oc outs) (hw : w.heap.size ≤ wr.heap.size) (ho : ∀ g, (Value.slice oa k oc).ownBlock = some g → g < wr.heap.size) (hb : wq.heap[wr.heap.size + 1]? = some (.cells #[v0, v1, v2, v3] 33 (0, 0))) (hv : wq.ownsRow w.heap.size 26 1 vi t.ids.length (uV t.ids)) (he : stepT (standT (L.take k)) p = (standT (L.take k), t)) : DoneS w (wq.setCell ⟨wr.heap.size + 1, i, none⟩ u) L k p aa ac A oa oc outs t vi := by
  have k0 : Tch [wr.heap.size + 1] wq (wq.setCell ⟨wr.heap.size + 1, i, none⟩ u) := (Tch.refl _ _).setCell (p := ⟨wr.heap.size + 1, i, none⟩) (fun _ => by simp) _
  refine (h.told_set (by omega) (fun g hg e => by have := ho g hg; omega) hb k0).look (ownsRow_tch hv k0 (fun g hg hm => ?_)) he
  obtain rfl := List.mem_singleton.1 hm
  obtain ⟨cur, h1⟩ := ownsRow_block hv hg
  rw [hb] at h1
  simp at h1

/-- Which of them stay when one is deleted. -/
def keepV (A : List HeldV) (p : Path) (id : Int) : List HeldV := A.filter (fun x => !(decide (hePath x = p) && (id == x.id)))
theorem keepV_stand (A : List HeldV) (p : Path) (id : Int) : standV (keepV A p id) = strikeS (standV A) p id := by
  unfold keepV standV strikeS
  rw [List.filter_map]
  rfl
theorem keepV_succ {A : List HeldV} {i : Nat} (hi : i < A.length) (p : Path) (id : Int) : keepV (A.take (i + 1)) p id = keepV (A.take i) p id ++ if (decide (hePath A[i] = p) && (id == A[i].id)) = true then [] else [A[i]] := by
  unfold keepV
  rw [List.take_succ_eq_append_getElem hi, List.filter_append]
  congr 1
  rw [List.filter_cons]
  cases h : (decide (hePath A[i] = p) && (id == A[i].id)) <;> simp [h]
/-- The numbers for a key, so far. -/
def idsTo (A : List HeldV) (key : List Int) : List Int := idsFor (standV A) key
theorem idsTo_succ {A : List HeldV} {i : Nat} (hi : i < A.length) (key : List Int) : idsTo (A.take (i + 1)) key = if fitsP (hePath A[i]) key = true then putO (idsTo (A.take i) key) A[i].id else idsTo (A.take i) key := by
  unfold idsTo idsFor standV
  rw [List.take_succ_eq_append_getElem hi, List.map_append, List.filter_append, List.foldl_append]
  cases h : fitsP (hePath A[i]) key <;> simp [List.filter_cons, h]
theorem He.u8 {w wr : World} {A : List HeldV} (h : ∀ x ∈ A, HeOk w wr x) : ∀ x ∈ standV A, u8P x.1 := by
  intro x hx
  obtain ⟨y, hy, rfl⟩ := List.mem_map.1 hx
  exact u8P_pathOf (h y hy).by0.u8

section
open Go.Maps
/-- A set of paths in memory. -/
abbrev SM (w : World) (B n : Nat) (xs : List Path) : Prop := w.ownsMap Tryz.prog 9 (plainElem (H := Unit) Tryz.prog 4) B n (setOf (.lit (.bool true)) (xs.map litP))
theorem SM.tch {w w' : World} {B n : Nat} {xs : List Path} (h : SM w B n xs) (t : Tch [] w w') : SM w' B n xs := by
  obtain ⟨es, clock, hb, r⟩ := h
  exact ⟨es, clock, t.obj hb (by simp), r⟩
theorem SM.more {w : World} {B n : Nat} {xs : List Path} {p : Path} {kl : Lit} (h : w.ownsMap Tryz.prog 9 (plainElem (H := Unit) Tryz.prog 4) B (n + 1) (DataW.put (setOf (.lit (.bool true)) (xs.map litP)) kl (.lit (.bool true)))) (hk : kl = litP p) : SM w B (n + 1) (xs ++ [p]) := by
  unfold SM
  rw [List.map_append, List.map_singleton, setOf_snoc, ← hk]
  exact h
theorem sm_law : Keyed Tryz.prog 9 := string_keyed Tryz.underlying9
theorem SM.count {w : World} {B n : Nat} {st : Stand} (h : SM w B n (pathsTo st st.length ++ [[]])) (hu : ∀ x ∈ st, u8P x.1) : Maps.size (setOf (H := Unit) (.lit (.bool true)) ((pathsTo st st.length ++ [[]]).map litP)) = (nodesS st).length ∧ (nodesS st).length ≤ n := by
  have h1 := nodes_count (H := Unit) (.lit (.bool true)) hu (paths_all st)
  refine ⟨h1, ?_⟩
  rw [← h1]
  exact h.size_le
end
theorem pathsTo_len {st : Stand} (h : ∀ x ∈ st, x.1.length ≤ 20000) : ∀ i, i ≤ st.length → (pathsTo st i).length ≤ 20001 * i
  | 0, _ => by simp [pathsTo]
  | i + 1, hi => by
    rw [pathsTo_succ st (by omega), List.length_append, initsP_len]
    have h1 := pathsTo_len h i (by omega)
    have h2 := h st[i] (List.getElem_mem _)
    omega
theorem He.len {w wr : World} {A : List HeldV} (h : ∀ x ∈ A, HeOk w wr x) : ∀ x ∈ standV A, x.1.length ≤ 20000 := by
  intro x hx
  obtain ⟨y, hy, rfl⟩ := List.mem_map.1 hx
  have := (h y hy).len
  simpa [hePath, pathOf] using this
theorem grown_tch1 {w w1 : World} {B : Nat} (h : w.grownBy w1 (some B)) : Tch [B] w w1 := (Tch.refl _ _).grown h (fun k hk _ => by simp at hk; simp [hk])

end Go.Proofs.YtcolffccbmpndaaGreatDoor
