/- pickCompactLevels, walked. -/
import Derived.Test.YtdofgamahjmohaaFkB
import Derived.Test.YtdofgamahjmohaaFkQ
import Derived.Test.YtdofgamahjmohaaFkD
import Derived.Test.YtdofgamahjmohaaFkR
namespace Go.Proofs.Ytdofgamahjmohaa
open Go.RowKit Go.Deep
set_option maxRecDepth 100000

theorem prC_get (b gA gB n : Nat) {w1 wr : World} {a : Option Addr} {m c : Nat} {xs : List PrD} (h : Own w1 wr 140 7 (.slice a m c) m (xs.flatMap (prC b gA gB n))) (hn : 0 < m) : ∃ g, a = some ⟨g, 0, none⟩ ∧ xs.length = m ∧ ∀ j, j < m → ∀ k, k < 7 → wr.cell? ⟨g, j * 7 + k, none⟩ = (prC b gA gB n (xs.getD j default))[k]? := by
  have hrow := h.row
  obtain ⟨g, cap, e, -, hg⟩ := ownsRow_value hrow hn
  simp only [Value.slice.injEq, true_and] at e
  obtain ⟨rfl, rfl⟩ := e
  have e7 : ∀ l : List PrD, (l.flatMap (prC b gA gB n)).length = l.length * 7 := fun l => by
    induction l with
    | nil => rfl
    | cons x l ih => rw [List.flatMap_cons, List.length_append, ih, List.length_cons]; simp [prC]; omega
  have hl : xs.length = m := by
    have := hrow.1
    rw [e7] at this
    omega
  refine ⟨g, rfl, hl, fun j hj k hk => ?_⟩
  rw [hrow.cellAt (j * 7 + k) (by omega)]
  exact flat_at (prC b gA gB n) 7 (fun _ => rfl) xs j k _ (by simp [List.getD, List.getElem?_eq_getElem (show j < xs.length by omega)]) hk

/-- levelTargets, said of levels. -/
theorem levT_any (LL : List (List Tb)) (o : Op) (gs go gH hc : Nat) (hb : Nat → Nat) (w : World) (h : CR w gs go gH LL.length hc hb (szs LL) o.lt o.tt o.bl o.bt o.mt) (hv : Valid LL o) :
    Calls Try.prog 46 #[ptr gs] w fun e w' => ∃ (b gA gB : Nat), e = .returned (.agg #[.int .i64 b, .slice (some ⟨gA, 0, none⟩) LL.length LL.length, .slice (some ⟨gB, 0, none⟩) LL.length LL.length]) ∧
      w'.heap[gA]? = some (.cells (arr LL.length (tgs LL o)) 2 (0, 0)) ∧ w'.heap[gB]? = some (.cells (arr LL.length (fsz o.tt o.bt o.mt b)) 2 (0, 0)) ∧ Based LL o b ∧ Tch [] w w' := by
  obtain ⟨m, hm⟩ : ∃ m, LL.length = m + 2 := ⟨LL.length - 2, by have := hv.op.n2; omega⟩
  rw [hm] at h
  refine (levelTargets_any gs go gH m hc hb (szs LL) o.lt o.tt o.bl o.bt o.mt w h (by have := hv.op.n7; omega) (fun j hj => ⟨(szs_bound hv (by omega)).1, (szs_bound hv (by omega)).2.1⟩) ⟨hv.op.lt1, hv.op.lt2⟩ ⟨hv.op.tt1, hv.op.tt2⟩ ⟨hv.op.bl1, hv.op.bl2⟩ ⟨hv.op.bt1, hv.op.bt2⟩ ⟨hv.op.mt1, hv.op.mt2⟩).mono ?_
  rintro e w' ⟨b, gA, gB, rfl, q1, q2, q3, q4⟩
  refine ⟨b, gA, gB, by rw [hm], ?_, ?_, ?_, q4⟩
  · unfold tgs; rw [hm]; exact q1
  · rw [hm]; exact q2
  · unfold Based tgs; rw [hm]; exact q3

theorem make_prios (w : World) (n : Nat) (hn : n ≤ 7) : ∃ v w', (Instr.makeSlice 136 (.int .i64 0) (.int .i64 n)).run Try.prog w = .ok v w' ∧ (v = .slice (some ⟨w.heap.size, 0, none⟩) 0 n ∧ Own w w' 140 7 (.slice (some ⟨w.heap.size, 0, none⟩) 0 n) 0 []) := by
  obtain ⟨i0, hinf, hz0, hz1, hz2⟩ := info_parts Try.infoPr
  obtain ⟨w', hr, ho, hg⟩ := run_make_own (P := Try.prog) w w.heap.size 136 140 i0 _ 7 Try.underlying136 hinf hz0 hz1 .i64 .i64 n (by rw [hz2]; omega) (by unfold maxLen; omega) (Nat.le_refl _)
  exact ⟨_, w', hr, rfl, (Tch.refl _ _).grown hg (fun k hk => by simp at hk), ho⟩

theorem PS.init {w w0 w6 : World} {gV gT b gA gB n gP : Nat} (hw : Tch [] w w0) (ho : Own w0 w6 140 7 (.slice (some ⟨gP, 0, none⟩) 0 n) 0 []) (hpv : w6.heap[gV]? = some (.cells #[.slice none 0 0] 136 (0, 0))) (htt : w6.heap[gT]? = some (.cells #[.int .i64 b, .slice (some ⟨gA, 0, none⟩) n n, .slice (some ⟨gB, 0, none⟩) n n] 98 (0, 0))) (hn : w.heap.size ≤ gV) : PS w (w6.setCell ⟨gV, 0, none⟩ (.slice (some ⟨gP, 0, none⟩) 0 n)) gV gT b gA gB n [] (some ⟨gP, 0, none⟩) n ∧ KeepO w6 (w6.setCell ⟨gV, 0, none⟩ (.slice (some ⟨gP, 0, none⟩) 0 n)) := by
  have t : Tch [gV] w6 (w6.setCell ⟨gV, 0, none⟩ (.slice (some ⟨gP, 0, none⟩) 0 n)) := (Tch.refl _ _).setCell (p := ⟨gV, 0, none⟩) (fun _ => by simp) _
  have hz := heap_setCell_same w6 gV 0 _ _ (.slice (some ⟨gP, 0, none⟩) 0 n) hpv
  refine ⟨⟨tch_new (hw.trans ho.t) t (fun g hg => by rw [List.mem_singleton.1 hg]; exact hn), by simpa using hz, obj_off htt t (sep_obj hpv (by decide)), ?_, hn⟩, fun g cs e h h1 h2 => obj_off h t (sep_obj hpv (fun e => h2 e.symm))⟩
  exact ownsRow_low (ownsRow_off ho.row t (sep_obj hpv (by decide))) hw.size

theorem results_cell_one {fn : Func} {p : Tmp} {ty e : TypeId} (h : fn.results = #[.cell p ty]) (tmps : Array Value) (w : World) (g : Nat) (v : Value) (hp : tmps.getD p undef = .pointer (some ⟨g, 0, none⟩)) (hc : w.cell? ⟨g, 0, none⟩ = some v) (hu : Try.prog.underlying ty = some (.slice e)) : (results fn tmps).run Try.prog w = .ok v w := by
  have hp' : tmps[p]?.getD undef = .pointer (some ⟨g, 0, none⟩) := by simpa using hp
  simp [results, h, hp', asAddr, loadVar, isAgg, underlying, hu, hc, Result.andThen]
/-- The variable's own value put into it once more. -/
theorem PS.same {w0 W : World} {gV gT b gA gB n c m : Nat} {a : Option Addr} {xs : List PrD} (h : PS w0 W gV gT b gA gB n xs a c) (hm : xs.length = m) :
    PS w0 (W.setCell ⟨gV, 0, none⟩ (.slice a m c)) gV gT b gA gB n xs a c := by
  subst hm
  have t : Tch [gV] W (W.setCell ⟨gV, 0, none⟩ (.slice a xs.length c)) := (Tch.refl _ _).setCell (p := ⟨gV, 0, none⟩) (fun _ => by simp) _
  have hz := heap_setCell_same W gV 0 _ _ (.slice a xs.length c) h.pv
  exact ⟨tch_new h.t t (fun g hg => by rw [List.mem_singleton.1 hg]; exact h.new), by simpa using hz, obj_off h.tt t (sep_obj h.pv (by decide)), ownsRow_off h.row t (sep_obj h.pv (by decide)), h.new⟩

set_option maxHeartbeats 8000000 in
theorem pickLevels_any (LL : List (List Tb)) (o : Op) (gs go gH gC hc cc : Nat) (hb cb : Nat → Nat) (D : Nat → Int) (a0 : Option Addr) (c0 : Nat) (w : World) (h : PR w gs go gH gC LL.length hc cc hb cb (szs LL) D a0 (LL.getD 0 []).length c0 o.lt o.tt o.zt o.bl o.bt o.mt) (hv : Valid LL o) (hD : ∀ i, i < LL.length → 0 ≤ D i ∧ D i ≤ 1125899906842624) :
    Calls Try.prog 61 #[ptr gs, .slice none 0 0] w fun e w' => ∃ (b gA gB : Nat) (a : Option Addr) (c : Nat) (R : List PrD), e = .returned (.slice a R.length c) ∧ Own w w' 140 7 (.slice a R.length c) R.length (R.flatMap (prC b gA gB LL.length)) ∧ Based LL o b ∧ R.Perm (pickL (scoreD LL o D) b LL.length) ∧ R.Pairwise (fun x y => ¬ V x.adj < V y.adj) := by
  have n2 := hv.op.n2
  have n7 := hv.op.n7
  have HV := Lib.hid hv
  have HPR := Lib.hid (fun w' (t : Tch [] w w') => h.tch t)
  have HDD := Lib.hid hD
  have HN2 := Lib.hid n2
  have HN7 := Lib.hid n7
  have hnI : (LL.length : Int) ≤ 7 := by omega
  have hnI2 : (2 : Int) ≤ (LL.length : Int) := by omega
  have HLT := Lib.hid (fun w' (t : Tch [] w w') => levT_any LL o gs go gH hc hb w' (h.cr.tch t) hv)
  have HSC : Hid (∀ i, i < LL.length → Num (scoreD LL o D i)) := Lib.hid (scoreD_num hv hD)
  obtain ⟨sc, hsc⟩ : ∃ sc, sc = scoreD LL o D := ⟨_, rfl⟩
  have HSE := Lib.hid hsc
  rw [← hsc] at HSC ⊢
  have HMK := Lib.hid (fun w' => make_prios w' LL.length n7)
  clear hsc h hv hD n2 n7
  have hsf := store_float
  go_enter Try.func61, Try.ntmps61
  have HT0 := Lib.hid ((Tch.refl [] w).alloc (.cells #[.slice none 0 0] 136))
  go_wp2_with fail
  refine (HLT.out _ HT0.out).mono ?_
  rintro e w5 ⟨b, gA, gB, rfl, q1, q2, q3, q4⟩
  have HQ1 := Lib.hid q1
  have HQ2 := Lib.hid q2
  have HBD := Lib.hid q3
  have HT5 := Lib.hid q4
  clear q1 q2 q3 q4
  have HTW := Lib.hid (HT0.out.trans HT5.out)
  have HT5a := Lib.hid ((Tch.refl [] w5).alloc (.cells #[.int .i64 b, .slice (some ⟨gA, 0, none⟩) LL.length LL.length, .slice (some ⟨gB, 0, none⟩) LL.length LL.length] 98))
  have k5 := HPR.out (w5.alloc (.cells #[.int .i64 b, .slice (some ⟨gA, 0, none⟩) LL.length LL.length, .slice (some ⟨gB, 0, none⟩) LL.length LL.length] 98)) (HTW.out.trans HT5a.out)
  have s0 := k5.cr.s0
  clear k5
  have k5p : (w5.alloc (.cells #[.int .i64 b, .slice (some ⟨gA, 0, none⟩) LL.length LL.length, .slice (some ⟨gB, 0, none⟩) LL.length LL.length] 98)).cell? ⟨gs, 0, none⟩ = some (.slice (some ⟨gH, 0, none⟩) LL.length hc) := s0
  go_upto_region 5 with (refine wpList_make_run rfl (.const (.int .i64 0)) (.tmp 31) 136 rfl (.int .i64 0) (.int .i64 LL.length) (by simp [Act.eval]) (by simp [Act.eval]) _ (HMK.out _) ?_; rintro vv w6 ⟨rfl, n1⟩; have HO6 := Lib.hid n1; clear n1)
  have HPV6 : Hid (w6.heap[w.heap.size]? = some (.cells #[.slice none 0 0] 136 (0, 0)) ∧ w6.heap[w5.heap.size]? = some (.cells #[.int .i64 b, .slice (some ⟨gA, 0, none⟩) LL.length LL.length, .slice (some ⟨gB, 0, none⟩) LL.length LL.length] 98 (0, 0)) ∧ w6.heap[gA]? = some (.cells (arr LL.length (tgs LL o)) 2 (0, 0))) := Lib.hid ⟨HO6.out.t.obj (HT5a.out.obj (HT5.out.obj (heap_alloc_new w _) (by simp)) (by simp)) (by simp), HO6.out.t.obj (heap_alloc_new w5 _) (by simp), HO6.out.t.obj (HT5a.out.obj HQ1.out (by simp)) (by simp)⟩
  have HPS0 : Hid (PS w (w6.setCell ⟨w.heap.size, 0, none⟩ (.slice (some ⟨w5.heap.size + 1, 0, none⟩) 0 LL.length)) w.heap.size w5.heap.size b gA gB LL.length [] (some ⟨w5.heap.size + 1, 0, none⟩) LL.length ∧ KeepO w6 (w6.setCell ⟨w.heap.size, 0, none⟩ (.slice (some ⟨w5.heap.size + 1, 0, none⟩) 0 LL.length))) := Lib.hid (by
    have ho := HO6.out
    have e : (w5.alloc (.cells #[.int .i64 b, .slice (some ⟨gA, 0, none⟩) LL.length LL.length, .slice (some ⟨gB, 0, none⟩) LL.length LL.length] 98)).heap.size = w5.heap.size + 1 := by simp
    rw [e] at ho
    exact PS.init (HTW.out.trans HT5a.out) ho HPV6.out.1 HPV6.out.2.1 (Nat.le_refl _))
  have f0 := frozen_of (j := 0) HPV6.out.1
  have v0 : w6.cell? ⟨w.heap.size, 0, none⟩ = some (.slice none 0 0) := by rw [cell_of_row w6 _ 0 _ _ _ HPV6.out.1]; rfl
  clear s0 k5p
  go_upto_region 6 with fail
  generalize (w6.setCell ⟨w.heap.size, 0, none⟩ (.slice (some ⟨w5.heap.size + 1, 0, none⟩) 0 LL.length)) = w7 at *
  have HPS := Lib.hid HPS0.out.1
  have HGA : Hid (w7.heap[gA]? = some (.cells (arr LL.length (tgs LL o)) 2 (0, 0))) := Lib.hid (HPS0.out.2 _ _ _ HPV6.out.2.2 (by decide) (by decide))
  have HCE : Hid (∀ w', Tch [] w w' → (w'.cell? ⟨gs, 0, none⟩ = some (.slice (some ⟨gH, 0, none⟩) LL.length hc) ∧ w'.cell? ⟨gs, 1, none⟩ = some (ptr go)) ∧ w'.cell? ⟨go, 3, none⟩ = some (.int .i64 o.zt) ∧ w'.cell? ⟨gH, 0, none⟩ = some (ptr (hb 0))) := Lib.hid (fun w' t => ⟨⟨(HPR.out w' t).cr.s0, (HPR.out w' t).cr.s1⟩, (HPR.out w' t).o3, (HPR.out w' t).cr.row 0 (by have := HN2.out; omega)⟩)
  clear f0 v0 HPS0 HPV6 HO6 HQ1 HQ2 HMK
  obtain ⟨⟨s0, s1⟩, o3, r0⟩ := HCE.out w7 HPS.out.t
  have hq0 := (score0_some HV.out (i := 0) (by have := HN2.out; omega)).1
  have HS0 : Hid (sc 0 = quoW (fI ((LL.getD 0 []).length : Nat)) (fI o.zt)) := Lib.hid (by rw [HSE.out]; rfl)
  generalize hts : LL.getD 0 [] = ts at *
  have hl30 : (ts.length : Int) ≤ 30 := by
    have hm : LL.getD 0 [] ∈ LL := by simp [List.getD, List.getElem?_eq_getElem (show 0 < LL.length by have := HN2.out; omega)]
    have := HV.out.few _ hm
    rw [hts] at this
    omega
  generalize quoW (fI (ts.length : Nat)) (fI o.zt) = q0 at *
  generalize hzt : o.zt = zt at *
  have HZT := Lib.hid hzt
  have hrq : ∀ (t : TypeId) (w : World), (binOp .quo t (.float .f64 (floatOfInt .f64 (ts.length : Nat))) (.float .f64 (floatOfInt .f64 zt))).run Try.prog w = .ok (.float .f64 q0) w := fun t w => run_float_arith w .quo t .f64 _ _ _ hq0
  have HNT := Lib.hid (fun w' (t : Tch [] w w') => numT_any (hb 0) ts.length c0 a0 w' ((HPR.out w' t).h0))
  have HAD : Hid (∀ w', Tch [] w7 w' → Calls Try.prog 69 #[.int .i64 0, .float .f64 q0, .pointer (some ⟨w5.heap.size, 0, none⟩), .pointer (some ⟨w.heap.size, 0, none⟩)] w' (fun e w9 => e = .returned (.tuple #[]) ∧ KeepO w' w9 ∧ ∃ a' c', PS w w9 w.heap.size w5.heap.size b gA gB LL.length [⟨0, q0, q0⟩] a' c')) := Lib.hid (fun w' (t : Tch [] w7 w') => by
    have hh := addPri_any w w' w.heap.size w5.heap.size b gA gB LL.length [] _ _ (HPS.out.tch t) 0 q0 (by simp)
    simpa [ptr] using hh)
  have HT7 := Lib.hid HPS.out.t
  have HSELF := Lib.hid (Tch.refl [] w7)
  clear hq0 hts hzt
  go_region_held3 (fun w' => w'.cell? ⟨gs, 0, none⟩ = some (.slice (some ⟨gH, 0, none⟩) LL.length hc) ∧ w'.cell? ⟨gs, 1, none⟩ = some (ptr go) ∧ w'.cell? ⟨go, 3, none⟩ = some (.int .i64 zt) ∧ w'.cell? ⟨gH, 0, none⟩ = some (ptr (hb 0))) (go_keep)
    (first
      | (go_at_call 70; (with_reducible refine (HNT.out _ ?_).mono ?_); (repeat (first | exact Tch.refl _ _ | exact Hid.out (by assumption) | refine Tch.drew ?_ | refine Tch.alloc ?_ _)); rintro e wa ⟨rfl, e5⟩
         have e5' := e5.symm
         subst e5')
      | (go_at_call 69; (with_reducible refine (HAD.out _ ?_).mono ?_); (repeat (first | exact Tch.refl _ _ | exact Hid.out (by assumption) | refine Tch.drew ?_ | refine Tch.alloc ?_ _)); rintro e w8 ⟨rfl, n1, a8, c8, n2⟩
         have HP8 := Lib.hid n2
         have HK8 := Lib.hid n1
         clear n1 n2 s0 s1 o3 r0
         obtain ⟨⟨s0, s1⟩, o3, r0⟩ := HCE.out w8 HP8.out.t))
  have HP1 : Hid (PS w w8 w.heap.size w5.heap.size b gA gB LL.length ((List.range 1).map (fun j => PrD.mk j (sc j) (sc j))) a8 c8 ∧ w8.heap[gA]? = some (.cells (arr LL.length (tgs LL o)) 2 (0, 0))) := Lib.hid ⟨by
    have h := HP8.out
    have e : (List.range 1).map (fun j => PrD.mk j (sc j) (sc j)) = [⟨0, q0, q0⟩] := by rw [← HS0.out]; rfl
    rw [e]
    exact h, HK8.out _ _ _ HGA.out (by decide) (by decide)⟩
  clear hrq HNT HAD HK8 HSELF HS0 HGA hl30
  go_wp2_with fail
  go_loopg [7] (LL.length - 1) (fun nn s7 wr => ∃ (i : Nat) (a : Option Addr) (c : Nat), 1 ≤ i ∧ i ≤ LL.length ∧ nn = LL.length - i ∧ s7 = .int .i64 i ∧ Hid (PS w wr w.heap.size w5.heap.size b gA gB LL.length ((List.range i).map (fun j => PrD.mk j (sc j) (sc j))) a c ∧ wr.heap[gA]? = some (.cells (arr LL.length (tgs LL o)) 2 (0, 0))))
  case atStart => exact ⟨1, a8, c8, Nat.le_refl _, by have := HN2.out; omega, rfl, rfl, HP1⟩
  case round =>
    clear s0 s1 o3 r0 HP1 HP8
    obtain ⟨i, a, c, hi1, hi, rfl, rfl, HZ⟩ := hrel
    rename World => wr
    obtain ⟨⟨s0, s1⟩, o3, r0⟩ := HCE.out wr HZ.out.1.t
    by_cases hlt : i < LL.length
    · have HLT := Lib.hid hlt
      have HI1 := Lib.hid hi1
      have hlt2 : (i : Int) < (LL.length : Int) := by omega
      have ri := (HPR.out wr HZ.out.1.t).cr.row i hlt
      have HDS := Lib.hid (fun w' (t : Tch [] wr w') => delSize_any gs gC LL.length cc i (cb i) (D i) w' HLT.out HN7.out (HPR.out w' (HZ.out.1.t.trans t)).s2 ((HPR.out w' (HZ.out.1.t.trans t)).sr i HLT.out) ((HPR.out w' (HZ.out.1.t.trans t)).sd i HLT.out))
      have HTC := Lib.hid (fun w' (t : Tch [] wr w') => total_cell (hb i) (szs LL i) w' ((HPR.out w' (HZ.out.1.t.trans t)).cr.tot i HLT.out))
      have tA : wr.cell? ⟨gA, i, none⟩ = some (.int .i64 (tgs LL o i)) := by rw [cell_of_row wr gA i _ _ _ HZ.out.2]; exact arr_at hlt
      have hq := (scoreI_some HV.out hi1 hlt (HDD.out i hlt)).1
      have hsi : sc i = quoW (fI (szs LL i - D i)) (fI (tgs LL o i)) := by rw [HSE.out]; unfold scoreD; rw [if_neg (by omega)]
      rw [← hsi] at hq
      have HSB := Lib.hid (szs_bound HV.out hlt)
      have hB1 := HSB.out.1
      have hB2 := HSB.out.2.1
      have hB3 := (HDD.out i hlt).1
      have hB4 := (HDD.out i hlt).2
      clear hsi
      generalize hqe : sc i = q1 at *
      generalize hti : tgs LL o i = ti at *
      generalize hTi : szs LL i = Ti at *
      generalize hDi : D i = di at *
      go_upto_region 13 with (first | (go_at_call 71; refine (HDS.out _ (Tch.refl _ _)).mono ?_; rintro e wa ⟨rfl, e5⟩; rw [e5]; clear e5) | (go_at_call 55; refine (HTC.out _ (Tch.refl _ _)).mono ?_; rintro e wa ⟨rfl, e5⟩; rw [e5]; clear e5))
      have tT : wr.cell? ⟨w5.heap.size, 1, none⟩ = some (.slice (some ⟨gA, 0, none⟩) LL.length LL.length) := by rw [cell_of_row wr _ 1 _ _ _ HZ.out.1.tt]; rfl
      have hrq : ∀ (t : TypeId) (w : World), (binOp .quo t (.float .f64 (floatOfInt .f64 (Ti - di))) (.float .f64 (floatOfInt .f64 ti))).run Try.prog w = .ok (.float .f64 q1) w := fun t w => run_float_arith w .quo t .f64 _ _ _ hq
      have HAD : Hid (∀ w', Tch [] wr w' → Calls Try.prog 69 #[.int .i64 i, .float .f64 q1, .pointer (some ⟨w5.heap.size, 0, none⟩), .pointer (some ⟨w.heap.size, 0, none⟩)] w' (fun e w9 => e = .returned (.tuple #[]) ∧ KeepO w' w9 ∧ ∃ a' c', PS w w9 w.heap.size w5.heap.size b gA gB LL.length ((List.range i).map (fun j => PrD.mk j (sc j) (sc j)) ++ [⟨i, q1, q1⟩]) a' c')) := Lib.hid (fun w' (t : Tch [] wr w') => by
        have hh := addPri_any w w' w.heap.size w5.heap.size b gA gB LL.length ((List.range i).map (fun j => PrD.mk j (sc j) (sc j))) _ _ (HZ.out.1.tch t) i q1 (by have := HN7.out; have := HLT.out; simp; omega)
        simpa [ptr] using hh)
      have HQ1 := Lib.hid hqe
      have HSELF := Lib.hid (Tch.refl [] wr)
      clear hq hqe HDS HTC s0 s1 o3 r0 ri
      go_upto_region 9 with
        (first
          | (go_at_call 69; (with_reducible refine (HAD.out _ ?_).mono ?_); (repeat (first | exact Tch.refl _ _ | exact Hid.out (by assumption) | refine Tch.drew ?_ | refine Tch.alloc ?_ _)); rintro e w8 ⟨rfl, n1, a8, c8, n2⟩
             have HP8 := Lib.hid n2
             have HK8 := Lib.hid n1
             clear n1 n2 tT tA))
      go_wp2_with fail
      go_roundg (LL.length - (i + 1))
      case rel => exact ⟨i + 1, a8, c8, by omega, HLT.out, rfl, by go_num, Lib.hid ⟨by
        have h := HP8.out
        rw [List.range_succ, List.map_append]
        simp only [List.map_cons, List.map_nil]
        rw [HQ1.out]
        exact h, HK8.out _ _ _ HZ.out.2 (by decide) (by decide)⟩⟩
      case measure => have := HLT.out; omega
    · obtain rfl : i = LL.length := by omega
      clear hlt hi hi1
      have HP0 : Hid (PS w wr w.heap.size w5.heap.size b gA gB LL.length (prL sc b b LL.length) a c) := Lib.hid (by
        have e : prL sc b b LL.length = (List.range LL.length).map (fun j => PrD.mk j (sc j) (sc j)) := by
          unfold prL
          apply List.map_congr_left
          intro j _
          rw [adjAt_start]
        rw [e]
        exact HZ.out.1)
      clear HZ
      have HAS := Lib.hid (fun (w' : World) => assert_true w')
      obtain ⟨g, rfl, -, -⟩ := prC_get b gA gB LL.length (⟨HP0.out.t, HP0.out.row⟩ : Own w wr 140 7 (.slice a (prL sc b b LL.length).length c) (prL sc b b LL.length).length _) (by have := HN2.out; simp [prL]; omega)
      have pv : wr.cell? ⟨w.heap.size, 0, none⟩ = some (.slice (some ⟨g, 0, none⟩) LL.length c) := by rw [cell_of_row wr w.heap.size 0 _ _ _ HP0.out.pv]; simp [prL]
      have tb : wr.cell? ⟨w5.heap.size, 0, none⟩ = some (.int .i64 b) := by rw [cell_of_row wr _ 0 _ _ _ HP0.out.tt]; rfl
      obtain ⟨w6, rfl⟩ : ∃ w6, w6 = wr := ⟨_, rfl⟩
      obtain ⟨hb1, hbn⟩ : 1 ≤ b ∧ b < LL.length := HBD.out.weak.ranged HN2.out
      have hbI : (b : Int) ≤ 7 := by have := HN7.out; omega
      have HBN := Lib.hid (⟨hb1, hbn⟩ : 1 ≤ b ∧ b < LL.length)
      clear hb1 hbn
      go_wp2_with fail
      go_quiet ((go_at_call 72; exact Calls.quiet_of_same (HAS.out _)))
      have HP0q := Lib.hid (HP0.out.tch ((Tch.refl [] w6).drewN nq))
      go_wp2_with fail
      go_loopg [11, 12] (LL.length - b) (fun nn s11 s12 wv => ∃ i : Nat, b ≤ i ∧ i ≤ LL.length ∧ nn = LL.length - i ∧ s11 = .int .i64 (befo b i) ∧ s12 = .int .i64 i ∧ Hid (PS w wv w.heap.size w5.heap.size b gA gB LL.length (prL sc b i LL.length) (some ⟨g, 0, none⟩) c))
      case atStart => exact ⟨b, Nat.le_refl _, by have := HBN.out.2; omega, rfl, by unfold befo; rw [if_pos rfl]; rfl, rfl, HP0q⟩
      case round =>
        obtain ⟨i, hbi, hi, rfl, rfl, rfl, HZ⟩ := hrel
        rename World => wv
        clear s0 s1 o3 r0 pv tb HP0 HP0q
        obtain ⟨⟨s0, s1⟩, o3, r0⟩ := HCE.out wv HZ.out.t
        have pv : wv.cell? ⟨w.heap.size, 0, none⟩ = some (.slice (some ⟨g, 0, none⟩) LL.length c) := by rw [cell_of_row wv w.heap.size 0 _ _ _ HZ.out.pv]; simp [prL]
        by_cases hlt : i < LL.length
        · have HLT2 := Lib.hid (⟨hbi, hlt⟩ : b ≤ i ∧ i < LL.length)
          have hlt2 : (i : Int) < (LL.length : Int) := by omega
          have hbf : befo b i < i := by have := HBN.out.1; unfold befo; split <;> omega
          obtain ⟨g2, eg, -, hrow⟩ := prC_get b gA gB LL.length (⟨HZ.out.t, HZ.out.row⟩ : Own w wv 140 7 (.slice (some ⟨g, 0, none⟩) (prL sc b i LL.length).length c) (prL sc b i LL.length).length _) (by have := HN2.out; simp [prL]; omega)
          obtain rfl : g = g2 := by simpa using eg
          have x2 := hrow (befo b i) (by simp [prL]; omega) 2 (by omega)
          have y1 := hrow i (by simp [prL]; omega) 1 (by omega)
          have y2 := hrow i (by simp [prL]; omega) 2 (by omega)
          rw [prL_get sc b i (by omega)] at x2
          rw [prL_get sc b i hlt] at y1 y2
          rw [adjAt_before sc HBN.out.1 hbi] at x2
          rw [adjAt_here sc HBN.out.1 hbi] at y2
          simp only [prC, List.getElem?_cons_succ, List.getElem?_cons_zero] at x2 y1 y2
          have hbf2 : ((befo b i : Nat) : Int) < (LL.length : Int) := by omega
          have hone := adjOne_val (sc := sc) (j := befo b i) (i := i) (HSC.out _ (by omega)) (HSC.out _ hlt)
          have HPX : Hid (∀ r, adjOne sc (befo b i) i = r → PS w (wv.setCell ⟨g, befo b i * 7 + 2, none⟩ (.float .f64 r)) w.heap.size w5.heap.size b gA gB LL.length (prL sc b (i + 1) LL.length) (some ⟨g, 0, none⟩) c) := Lib.hid (fun r hr => HZ.out.set (befo b i * 7 + 2) (.float .f64 r) (by rw [flatP_set _ _ _ _ _ _ _ (by simp [prL]; omega), prL_next HBN.out.1 hbi hlt hr]) (by simp [prL]))
          have HSAME : Hid (∀ r, adjOne sc (befo b i) i = r → r = sc (befo b i) → prL sc b (i + 1) LL.length = prL sc b i LL.length) := Lib.hid (fun r h1 h2 => by
            unfold prL
            apply List.map_congr_left
            intro j _
            rw [adjAt_step sc HBN.out.1 hbi j]
            split
            · rename_i hj
              rw [hj, h1, h2, adjAt_before sc HBN.out.1 hbi]
            · rfl)
          have HBS : Hid (befo b (i + 1) = i) := Lib.hid (befo_step hbi)
          have hfz : wv.frozen? ⟨g, befo b i * 7 + 2, none⟩ = false := own_froz (⟨HZ.out.t, HZ.out.row⟩ : Own w wv 140 7 (.slice (some ⟨g, 0, none⟩) (prL sc b i LL.length).length c) (prL sc b i LL.length).length _)
          generalize hbe : befo b i = bf at *
          obtain ⟨r, hr1, hr2, hr3, hrv⟩ := hone
          have HPN := Lib.hid (HPX.out r hr3)
          have HSM := Lib.hid (fun h => HSAME.out r hr3 h)
          have hga : (FloatKind.f64.format.order (sc bf) 4607182418800017408 == some .gt || FloatKind.f64.format.order (sc bf) 4607182418800017408 == some .eq) = geW (sc bf) oneW := rfl
          have hgb : (FloatKind.f64.format.order (sc i) 4576918229304087675 == some .gt || FloatKind.f64.format.order (sc i) 4576918229304087675 == some .eq) = geW (sc i) centW := rfl
          generalize hG : geW (sc bf) oneW = G at *
          generalize hC : geW (sc i) centW = C at *
          generalize sc bf = xb at *
          generalize sc i = xi at *
          clear hrow hbi hi hlt hG hC hr3 hbe HPX HSAME hrv
          have HSF := Lib.hid hsf
          cases G with
          | false =>
            have HS2 := Lib.hid (HSM.out (hr2 rfl))
            clear hr1 hr2 hgb
            go_wp2_with fail
            go_roundg (LL.length - (i + 1))
            case rel => exact ⟨i + 1, by have := HLT2.out; omega, by have := HLT2.out; omega, rfl, by rw [HBS.out], by go_num, Lib.hid (by rw [HS2.out]; exact HZ.out)⟩
            case measure => have := HLT2.out; omega
          | true =>
            have hq := hr1 rfl
            clear hr1 hr2
            cases C with
            | true =>
              rw [if_pos rfl] at hq
              have hrq : ∀ (t : TypeId) (w : World), (binOp .quo t (.float .f64 xb) (.float .f64 xi)).run Try.prog w = .ok (.float .f64 r) w := fun t w => run_float_arith w .quo t .f64 _ _ _ hq
              clear hq
              go_wp2_with fail
              go_region
              all_goals
                go_wp2_with fail
                go_roundg (LL.length - (i + 1))
                case rel => exact ⟨i + 1, by have := HLT2.out; omega, by have := HLT2.out; omega, rfl, by rw [HBS.out], by go_num, Lib.hid (HPN.out.tch (Tch.refl _ _).drew)⟩
                case measure => have := HLT2.out; omega
            | false =>
              rw [if_neg (by simp)] at hq
              have hrq : ∀ (t : TypeId) (w : World), (binOp .quo t (.float .f64 xb) (.float .f64 4576918229304087675)).run Try.prog w = .ok (.float .f64 r) w := fun t w => run_float_arith w .quo t .f64 _ _ _ hq
              clear hq
              go_wp2_with fail
              go_roundg (LL.length - (i + 1))
              case rel => exact ⟨i + 1, by have := HLT2.out; omega, by have := HLT2.out; omega, rfl, by rw [HBS.out], by go_num, Lib.hid HPN.out⟩
              case measure => have := HLT2.out; omega
        · obtain rfl : i = LL.length := by omega
          clear hlt hi hbi
          obtain ⟨PL, hPL⟩ : ∃ PL, PL = prL sc b LL.length LL.length := ⟨_, rfl⟩
          have HPLL : Hid (PL.length = LL.length) := Lib.hid (by rw [hPL]; simp [prL])
          have HVAL : Hid (∀ x ∈ PL, Val x.adj ∧ Num x.sc) := Lib.hid (fun x hx => by
            rw [hPL] at hx
            obtain ⟨j, hj, rfl⟩ := List.mem_map.1 hx
            exact ⟨adjAt_val HSC.out HBN.out.2 (Nat.le_refl _) (List.mem_range.1 hj), HSC.out j (List.mem_range.1 hj)⟩)
          have HFIN : Hid (pickL sc b LL.length = (PL.take (LL.length - 1)).filter wants) := Lib.hid (by rw [hPL]; rfl)
          have HP1 : Hid (PS w wv w.heap.size w5.heap.size b gA gB LL.length (halfL PL 0) (some ⟨g, 0, none⟩) c) := Lib.hid (by rw [half_zero, hPL]; exact HZ.out)
          have hcap : LL.length ≤ c := by
            rcases HZ.out.row.2 with ⟨e, -⟩ | ⟨g', cap, cur, e, -, -, hnc, -⟩
            · simp at e
            · simp [prL] at e hnc; omega
          have HCAP := Lib.hid hcap
          have hn1 : (0 : Int) < (LL.length : Int) := by have := HN2.out; omega
          have hn1' : (1 : Int) ≤ (LL.length : Int) := by omega
          have hcap2 : (LL.length : Int) ≤ (c : Int) := by omega
          have hcap3 : (LL.length : Int) - 1 ≤ (c : Int) := by omega
          clear hPL hcap HZ
          go_wp2_with fail
          go_loopg [13, 153] (LL.length - 1) (fun nn s13 s153 wq => ∃ i m : Nat, i ≤ LL.length - 1 ∧ nn = LL.length - 1 - i ∧ s13 = .slice (some ⟨g, 0, none⟩) m c ∧ s153 = .int .i64 i ∧ Hid (m = ((PL.take i).filter wants).length ∧ PS w wq w.heap.size w5.heap.size b gA gB LL.length (halfL PL i) (some ⟨g, 0, none⟩) c))
          case atStart => exact ⟨0, 0, Nat.zero_le _, rfl, rfl, rfl, Lib.hid ⟨rfl, HP1.out⟩⟩
          case round =>
            obtain ⟨i, m, hi, rfl, rfl, rfl, HY⟩ := hrel
            rename World => wq
            clear s0 s1 o3 r0 pv HP1
            by_cases hlt : i < LL.length - 1
            · have HLI := Lib.hid hlt
              have hlt2 : (i : Int) < ((LL.length - 1 : Nat) : Int) := by omega
              have hilt : i < PL.length := by rw [HPLL.out]; omega
              obtain ⟨g2, eg, -, hrow⟩ := prC_get b gA gB LL.length (⟨HY.out.2.t, HY.out.2.row⟩ : Own w wq 140 7 (.slice (some ⟨g, 0, none⟩) (halfL PL i).length c) (halfL PL i).length _) (by rw [half_len PL (by omega), HPLL.out]; omega)
              obtain rfl : g = g2 := by simpa using eg
              have hil : i < (halfL PL i).length := by rw [half_len PL (by omega)]; exact hilt
              have x0 := hrow i hil 0 (by omega)
              have x1 := hrow i hil 1 (by omega)
              have x2 := hrow i hil 2 (by omega)
              have x3 := hrow i hil 3 (by omega)
              have x4 := hrow i hil 4 (by omega)
              have x5 := hrow i hil 5 (by omega)
              have x6 := hrow i hil 6 (by omega)
              rw [half_get PL hilt] at x0 x1 x2 x3 x4 x5 x6
              have HAPP : Hid (wants PL[i] = true → ∃ v' w', (Builtin.append_ #[136, 136] 136 #[.slice (some ⟨g, 0, none⟩) m c, .slice (some ⟨wq.heap.size + 1, 0, none⟩) 1 1]).run Try.prog ((wq.alloc (.cells (prC b gA gB LL.length PL[i]).toArray 140)).alloc (.cells (prC b gA gB LL.length PL[i]).toArray 140)) = .ok v' w' ∧ v' = .slice (some ⟨g, 0, none⟩) (m + 1) c ∧ PS w w' w.heap.size w5.heap.size b gA gB LL.length (halfL PL (i + 1)) (some ⟨g, 0, none⟩) c) := Lib.hid (fun hw => half_app HY.out.2 hilt rfl hw HY.out.1 (((Tch.refl _ _).alloc _).alloc _) (by
                have h := heap_alloc_new (wq.alloc (.cells (prC b gA gB LL.length PL[i]).toArray 140)) (.cells (prC b gA gB LL.length PL[i]).toArray 140)
                simpa using h) (by rw [HPLL.out]; exact HCAP.out))
              have HSKIP : Hid (wants PL[i] = false → halfL PL (i + 1) = halfL PL i ∧ (PL.take (i + 1)).filter wants = (PL.take i).filter wants) := Lib.hid (half_skip PL hilt)
              have HTAKE : Hid (wants PL[i] = true → ((PL.take (i + 1)).filter wants).length = ((PL.take i).filter wants).length + 1) := Lib.hid (fun hw => by rw [take_more PL hilt, if_pos hw]; simp)
              have HMC : Hid (m < c) := Lib.hid (by have := half_le PL i; have := HY.out.1; have := HCAP.out; omega)
              generalize PL[i] = x at *
              obtain ⟨xl, xs, xa⟩ := x
              simp only [prC, List.getElem?_cons_succ, List.getElem?_cons_zero, Nat.add_zero] at x0 x1 x2 x3 x4 x5 x6 HAPP
              have hga : (FloatKind.f64.format.order xs 4607182418800017408 == some .gt || FloatKind.f64.format.order xs 4607182418800017408 == some .eq) = geW xs oneW := rfl
              have hwt : wants ⟨xl, xs, xa⟩ = geW xs oneW := rfl
              rw [hwt] at HAPP HSKIP HTAKE
              generalize geW xs oneW = G at *
              clear hrow hil hilt hwt hi hlt
              cases G with
              | false =>
                have HSK := Lib.hid (HSKIP.out rfl)
                clear HAPP HSKIP HTAKE
                go_wp2_with fail
                go_roundg (LL.length - 1 - (i + 1))
                case rel => exact ⟨i + 1, m, HLI.out, rfl, rfl, by go_num, Lib.hid ⟨by rw [HSK.out.2]; exact HY.out.1, by rw [HSK.out.1]; exact HY.out.2.tch ((Tch.refl _ _).alloc _)⟩⟩
                case measure => have := HLI.out; omega
              | true =>
                have HA := Lib.hid (HAPP.out rfl)
                have HTK := Lib.hid (HTAKE.out rfl)
                clear HAPP HSKIP HTAKE
                go_wp2_with (at_builtin; refine wpList_append_run rfl (.tmp 160) (.tmp 162) 136 rfl (.slice (some ⟨g, 0, none⟩) m c) (.slice (some ⟨wq.heap.size + 1, 0, none⟩) 1 1) (by simp [Act.eval]) (by simp [Act.eval]) _ (by simpa using HA.out) ?_; rintro vv w7 ⟨rfl, n1⟩; have HN1 := Lib.hid n1; clear n1)
                go_roundg (LL.length - 1 - (i + 1))
                case rel => exact ⟨i + 1, m + 1, HLI.out, rfl, rfl, by go_num, Lib.hid ⟨by rw [HTK.out, ← HY.out.1], HN1.out⟩⟩
                case measure => have := HLI.out; omega
            · obtain rfl : i = LL.length - 1 := by omega
              clear hlt hi
              have HPC := Lib.hid (HY.out.2.cut (by rw [HPLL.out]; omega) HY.out.1)
              have pv : wq.cell? ⟨w.heap.size, 0, none⟩ = some (.slice (some ⟨g, 0, none⟩) (halfL PL (LL.length - 1)).length c) := by rw [cell_of_row wq w.heap.size 0 _ _ _ HY.out.2.pv]; rfl
              have f0 := frozen_of (j := 0) HY.out.2.pv
              have HFV : Hid (∀ x ∈ (PL.take (LL.length - 1)).filter wants, Val x.adj) := Lib.hid (fun x hx => (HVAL.out x (List.mem_of_mem_take (List.mem_filter.1 hx).1)).1)
              have HM := Lib.hid HY.out.1
              have HM7 : Hid (m ≤ 7) := Lib.hid (by have := half_le PL (LL.length - 1); have := HY.out.1; have := HN7.out; omega)
              rw [← HFIN.out] at HFV HM HPC
              have HSB := Lib.hid HPC.out.t
              have HSRT := Lib.hid (fun w' (t : Tch [] (wq.setCell ⟨w.heap.size, 0, none⟩ (.slice (some ⟨g, 0, none⟩) m c)) w') => (HPC.out.tch t).sort HM.out HM7.out HFV.out)
              clear HY
              go_upto_region 32 with fail
              have pw : (wq.setCell ⟨w.heap.size, 0, none⟩ (.slice (some ⟨g, 0, none⟩) m c)).cell? ⟨w.heap.size, 0, none⟩ = some (.slice (some ⟨g, 0, none⟩) m c) := by rw [cell_of_row _ w.heap.size 0 _ _ _ HPC.out.pv, HM.out]; rfl
              clear pv f0
              generalize (wq.setCell ⟨w.heap.size, 0, none⟩ (.slice (some ⟨g, 0, none⟩) m c)) = w8 at *
              go_wp2_with (go_at_call 65; refine (HSRT.out _ (Tch.refl _ _)).mono ?_; rintro e w9 ⟨rfl, R, q1, q2, q3, q4⟩; have HR := Lib.hid (⟨q1, q2, q3, q4⟩ : R.length = m ∧ R.Perm (pickL sc b LL.length) ∧ R.Pairwise (fun x y => ¬ V x.adj < V y.adj) ∧ PS w w9 w.heap.size w5.heap.size b gA gB LL.length R (some ⟨g, 0, none⟩) c); clear q1 q2 q3 q4 pw; have pw : w9.cell? ⟨w.heap.size, 0, none⟩ = some (.slice (some ⟨g, 0, none⟩) m c) := by { rw [cell_of_row w9 w.heap.size 0 _ _ _ HR.out.2.2.2.pv, HR.out.1]; rfl }; have f1 := frozen_of (j := 0) HR.out.2.2.2.pv)
              have HE := HR.out.2.2.2.same HR.out.1
              refine bodyPost_ret (results_cell_one rfl _ _ w.heap.size (.slice (some ⟨g, 0, none⟩) m c) rfl (by rw [cell_of_row _ w.heap.size 0 _ _ _ HE.pv, HR.out.1]; rfl) Try.underlying136) rfl ?_
              exact ⟨b, gA, gB, some ⟨g, 0, none⟩, c, R, by rw [HR.out.1], ⟨HE.t, HE.row⟩, HBD.out, HR.out.2.1, HR.out.2.2.1.imp (fun h => by omega)⟩


end Go.Proofs.Ytdofgamahjmohaa
