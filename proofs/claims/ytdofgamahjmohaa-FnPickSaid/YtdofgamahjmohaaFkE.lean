/- (*Levels).Pick, impl.picked, impl.Pick; spec.NewPlan, spec.SamePicked. -/
import Derived.Test.YtdofgamahjmohaaFkC
import Derived.Test.YtdofgamahjmohaaLwA
namespace Go.Proofs.Ytdofgamahjmohaa
open Go.RowKit Go.Deep
set_option maxRecDepth 100000

theorem Try.infoBPri : (Try.prog.info? 118).map (fun i => (i.zero, i.size, i.bytes)) = some (some (.agg #[.int .i64 0, .float .f64 0, .float .f64 0]), 3, 24) := by kernel_rfl

theorem take_one {α : Type} [Inhabited α] (R : List α) (f : α → List Value) {i : Nat} (h : i < R.length) : ((R.take (i + 1)).flatMap f) = (R.take i).flatMap f ++ f (R.getD i default) := by
  rw [List.take_succ_eq_append_getElem h, List.flatMap_append]
  simp [List.getD, List.getElem?_eq_getElem h]

theorem prB_at {w wr : World} {e : TypeId} {a : Option Addr} {n c : Nat} {xs : List PrD} (h : Own w wr e 3 (.slice a n c) n (xs.flatMap sC)) (hn : 0 < n) : ∃ g, a = some ⟨g, 0, none⟩ ∧ ∀ j, j < n → ∀ k, k < 3 → wr.cell? ⟨g, j * 3 + k, none⟩ = (sC (xs.getD j default))[k]? := by
  have hrow := h.row
  obtain ⟨g, cap, e, -, hg⟩ := ownsRow_value hrow hn
  simp only [Value.slice.injEq, true_and] at e
  obtain ⟨rfl, rfl⟩ := e
  have hl : xs.length = n := by
    have := hrow.1
    rw [flatC_len] at this
    omega
  refine ⟨g, rfl, fun j hj k hk => ?_⟩
  rw [hrow.cellAt (j * 3 + k) (by omega)]
  exact flat_at sC 3 (fun _ => rfl) xs j k _ (by simp [List.getD, List.getElem?_eq_getElem (show j < xs.length by omega)]) hk

/-- What (*Levels).Pick tells. -/
def PickOut (w : World) (LL : List (List Tb)) (o : Op) (D : Nat → Int) (ty : TypeId) (e : Ending) (w' : World) : Prop :=
  ∃ (b : Nat) (a : Option Addr) (c : Nat) (R : List PrD), e = .returned (.slice a R.length c) ∧ Own w w' ty 3 (.slice a R.length c) R.length (R.flatMap sC) ∧ Based LL o b ∧ R.Perm (pickL (scoreD LL o D) b LL.length) ∧ R.Pairwise (fun x y => V y.adj ≤ V x.adj)

theorem pick_few {sc : Nat → Nat} {b n : Nat} {R : List PrD} (h : R.Perm (pickL sc b n)) : R.length ≤ n := by
  rw [h.length_eq]
  unfold pickL
  have h1 := List.length_filter_le wants ((prL sc b n n).take (n - 1))
  rw [List.length_take] at h1
  have h2 : (prL sc b n n).length = n := by simp [prL]
  omega

set_option maxHeartbeats 2000000 in
theorem lPick_any (LL : List (List Tb)) (o : Op) (gL gs go gH gC hc cc : Nat) (hb cb : Nat → Nat) (D : Nat → Int) (a0 : Option Addr) (c0 : Nat) (w : World) (hL : w.cell? ⟨gL, 0, none⟩ = some (ptr gs)) (h : PR w gs go gH gC LL.length hc cc hb cb (szs LL) D a0 (LL.getD 0 []).length c0 o.lt o.tt o.zt o.bl o.bt o.mt) (hv : Valid LL o) (hD : ∀ i, i < LL.length → 0 ≤ D i ∧ D i ≤ 1125899906842624) :
    Calls Try.prog 48 #[ptr gL] w (PickOut w LL o D 118) := by
  have HPK := Lib.hid (pickLevels_any LL o gs go gH gC hc cc hb cb D a0 c0 w h hv hD)
  have HN7 := Lib.hid hv.op.n7
  obtain ⟨i0, hinf, hz0, hz1, hz2⟩ := info_parts Try.infoBPri
  have HAP := Lib.hid (fun (w0 wr : World) (v : Value) (n : Nat) (xs : List Value) (x : PrD) (h : Own w0 wr 118 3 v n xs) (hn : n ≤ 100000000) => own_app (ty := 116) Try.underlying116 hinf hz0 hz1 hz2 rfl (by decide) (by decide) #[.int .i64 x.lvl, .float .f64 x.sc, .float .f64 x.adj] h hn rfl (by intro y hy; simp only [List.mem_cons, List.not_mem_nil, or_false] at hy; rcases hy with rfl | rfl | rfl <;> rfl))
  have hsf := store_float
  clear h hv hD hinf hz0 hz1 hz2
  go_enter Try.func48, Try.ntmps48
  go_wp2_with fail
  refine HPK.out.mono ?_
  rintro e w6 ⟨b, gA, gB, a, c, R, rfl, q1, q2, q3, q4⟩
  have HQ := Lib.hid q1
  have HB := Lib.hid (⟨q2, q3, q4⟩ : Based LL o b ∧ R.Perm (pickL (scoreD LL o D) b LL.length) ∧ R.Pairwise (fun x y => V y.adj ≤ V x.adj))
  have HR7 : Hid (R.length ≤ 7) := Lib.hid (by have := pick_few q3; have := HN7.out; omega)
  have hR7 : (R.length : Int) ≤ 7 := by have := HR7.out; omega
  clear q1 q2 q3 q4
  have HO0 : Hid (Own w6 w6 118 3 (.slice none 0 0) 0 ((R.take 0).flatMap sC)) := Lib.hid ⟨Tch.refl _ _, World.ownsRow_nil _ _ _ _⟩
  go_wp2_with fail
  go_loopg [3, 12] R.length (fun nn s3 s12 wr => ∃ (i : Nat) (a1 : Option Addr) (c1 : Nat), i ≤ R.length ∧ nn = R.length - i ∧ s3 = .slice a1 i c1 ∧ s12 = .int .i64 i ∧ Hid (Own w6 wr 118 3 (.slice a1 i c1) i ((R.take i).flatMap sC)))
  case atStart => exact ⟨0, none, 0, Nat.zero_le _, rfl, rfl, rfl, HO0⟩
  case round =>
    obtain ⟨i, a1, c1, hi, rfl, rfl, rfl, HZ⟩ := hrel
    rename World => wr
    by_cases hlt : i < R.length
    · have HLT := Lib.hid hlt
      have hlt2 : (i : Int) < (R.length : Int) := by omega
      obtain ⟨g, rfl, -, hrow⟩ := prC_get b gA gB LL.length (HQ.out.tch HZ.out.t) (by omega)
      have x0 := hrow i hlt 0 (by omega)
      have x1 := hrow i hlt 1 (by omega)
      have x2 := hrow i hlt 2 (by omega)
      have x3 := hrow i hlt 3 (by omega)
      have x4 := hrow i hlt 4 (by omega)
      have x5 := hrow i hlt 5 (by omega)
      have x6 := hrow i hlt 6 (by omega)
      have HTK := Lib.hid (take_one R sC hlt)
      have HA := Lib.hid (fun x => HAP.out w6 (wr.alloc (.cells (prC b gA gB LL.length x).toArray 140)) (.slice a1 i c1) i _ x (HZ.out.tch ((Tch.refl _ _).alloc _)) (by have := HR7.out; omega))
      generalize R.getD i default = x at *
      have HA2 := Lib.hid (HA.out x)
      obtain ⟨xl, xs, xa⟩ := x
      simp only [prC, List.getElem?_cons_succ, List.getElem?_cons_zero, Nat.add_zero] at x0 x1 x2 x3 x4 x5 x6 HA2
      clear hrow hi hlt HA
      go_wp2_with (at_builtin; refine wpList_append_run rfl (.tmp 16) (.tmp 24) 116 rfl (.slice a1 i c1) (.slice (some ⟨wr.heap.size + 1, 0, none⟩) 1 1) (by simp [Act.eval]) (by simp [Act.eval]) _ (by simpa using HA2.out) ?_; rintro vv w7 ⟨g7, c7, rfl, n1, n2, n3, n4, n5⟩; have HN1 := Lib.hid n1; clear n1 n2 n3 n4 n5)
      go_roundg (R.length - (i + 1))
      case rel => exact ⟨i + 1, _, _, HLT.out, rfl, rfl, by go_num, Lib.hid (by rw [HTK.out]; exact HN1.out)⟩
      case measure => have := HLT.out; omega
    · obtain rfl : i = R.length := by omega
      clear hlt hi
      go_wp2_with fail
      go_ret
      have h := HZ.out
      rw [List.take_length] at h
      exact ⟨b, a1, c1, R, rfl, ⟨HQ.out.t.trans h.t, ownsRow_low h.row HQ.out.t.size⟩, HB.out⟩

set_option maxHeartbeats 2000000 in
theorem picked_any (LL : List (List Tb)) (o : Op) (D : Nat → Int) (gL : Nat) (w : World) (hp : ∀ w', Tch [] w w' → Calls Try.prog 48 #[ptr gL] w' (PickOut w' LL o D 118)) (h7 : LL.length ≤ 7) :
    Calls Try.prog 40 #[ptr gL] w (PickOut w LL o D 84) := by
  have HPK := Lib.hid hp
  have HN7 := Lib.hid h7
  obtain ⟨i0, hinf, hz0, hz1, hz2⟩ := info_parts Try.infoPri
  have HAP := Lib.hid (fun (w0 wr : World) (v : Value) (n : Nat) (xs : List Value) (x : PrD) (h : Own w0 wr 84 3 v n xs) (hn : n ≤ 100000000) => own_app (ty := 50) Try.underlying50 hinf hz0 hz1 hz2 rfl (by decide) (by decide) #[.int .i64 x.lvl, .float .f64 x.sc, .float .f64 x.adj] h hn rfl (by intro y hy; simp only [List.mem_cons, List.not_mem_nil, or_false] at hy; rcases hy with rfl | rfl | rfl <;> rfl))
  have hsf := store_float
  have HO0 := Lib.hid (Own.new (Tch.refl [] w) 84 3)
  have HT0 := Lib.hid ((Tch.refl [] w).alloc (.cells #[] 84))
  clear hp h7 hinf hz0 hz1 hz2
  go_enter Try.func40, Try.ntmps40
  go_wp2_with fail
  refine (HPK.out _ HT0.out).mono ?_
  rintro e w6 ⟨b, a, c, R, rfl, q1, q2, q3, q4⟩
  have HQ := Lib.hid q1
  have HB := Lib.hid (⟨q2, q3, q4⟩ : Based LL o b ∧ R.Perm (pickL (scoreD LL o D) b LL.length) ∧ R.Pairwise (fun x y => V y.adj ≤ V x.adj))
  have HR7 : Hid (R.length ≤ 7) := Lib.hid (by have := pick_few q3; have := HN7.out; omega)
  have hR7 : (R.length : Int) ≤ 7 := by have := HR7.out; omega
  clear q1 q2 q3 q4
  have HO6 : Hid (Own w w6 84 3 (.slice (some ⟨w.heap.size, 0, none⟩) 0 0) 0 ((R.take 0).flatMap sC)) := Lib.hid (HO0.out.tch HQ.out.t)
  go_wp2_with fail
  go_loopg [3, 10] R.length (fun nn s3 s10 wr => ∃ (i : Nat) (a1 : Option Addr) (c1 : Nat), i ≤ R.length ∧ nn = R.length - i ∧ s3 = .slice a1 i c1 ∧ s10 = .int .i64 i ∧ Hid (Own w wr 84 3 (.slice a1 i c1) i ((R.take i).flatMap sC) ∧ Own w wr 118 3 (.slice a R.length c) R.length (R.flatMap sC)))
  case atStart => exact ⟨0, _, 0, Nat.zero_le _, rfl, rfl, rfl, Lib.hid ⟨HO6.out, HT0.out.trans HQ.out.t, ownsRow_low HQ.out.row HT0.out.size⟩⟩
  case round =>
    obtain ⟨i, a1, c1, hi, rfl, rfl, rfl, HZ⟩ := hrel
    rename World => wr
    by_cases hlt : i < R.length
    · have HLT := Lib.hid hlt
      have hlt2 : (i : Int) < (R.length : Int) := by omega
      obtain ⟨g, rfl, hrow⟩ := prB_at HZ.out.2 (by omega)
      have x0 := hrow i hlt 0 (by omega)
      have x1 := hrow i hlt 1 (by omega)
      have x2 := hrow i hlt 2 (by omega)
      have HTK := Lib.hid (take_one R sC hlt)
      have HA := Lib.hid (fun x => HAP.out w (wr.alloc (.cells (sC x).toArray 118)) (.slice a1 i c1) i _ x (HZ.out.1.tch ((Tch.refl _ _).alloc _)) (by have := HR7.out; omega))
      generalize R.getD i default = x at *
      have HA2 := Lib.hid (HA.out x)
      obtain ⟨xl, xs, xa⟩ := x
      simp only [sC, List.getElem?_cons_succ, List.getElem?_cons_zero, Nat.add_zero] at x0 x1 x2 HA2
      clear hrow hi hlt HA
      go_wp2_with (at_builtin; refine wpList_append_run rfl (.tmp 14) (.tmp 22) 50 rfl (.slice a1 i c1) (.slice (some ⟨wr.heap.size + 1, 0, none⟩) 1 1) (by simp [Act.eval]) (by simp [Act.eval]) _ (by simpa using HA2.out) ?_; rintro vv w7 ⟨g7, c7, rfl, n1, n2, n3, n4, n5⟩; have HN1 := Lib.hid n1; have HN4 := Lib.hid n4; clear n1 n2 n3 n4 n5)
      go_roundg (R.length - (i + 1))
      case rel => exact ⟨i + 1, _, _, HLT.out, rfl, rfl, by go_num, Lib.hid ⟨by rw [HTK.out]; exact HN1.out, by
        exact ⟨HN1.out.t, ownsRow_off (HZ.out.2.tch ((Tch.refl _ _).alloc _)).row HN4.out (sep_row (HZ.out.1.tch ((Tch.refl _ _).alloc _)).row (by decide))⟩⟩⟩
      case measure => have := HLT.out; omega
    · obtain rfl : i = R.length := by omega
      clear hlt hi
      go_wp2_with fail
      go_ret
      have h := HZ.out.1
      rw [List.take_length] at h
      exact ⟨b, a1, c1, R, rfl, h, HB.out⟩

/-- What is read of levels that have been made. -/
theorem made_pr {w : World} {gL : Nat} {LL : List (List Tb)} {o : Op} (h : Made w gL (opA o.lv o.lt o.tt o.zt o.bl o.bt o.mt o.di) LL.length LL) (hn : 0 < LL.length) :
    ∃ gs go gH gC hc cc hb cb a0 c0, w.cell? ⟨gL, 0, none⟩ = some (ptr gs) ∧ PR w gs go gH gC LL.length hc cc hb cb (szs LL) (fun _ => 0) a0 (LL.getD 0 []).length c0 o.lt o.tt o.zt o.bl o.bt o.mt := by
  obtain ⟨b, gs, go, HA, CA, hc, cc, mv, hds, cbs, hL, hC⟩ := h
  obtain ⟨gH, cap, e, -, hlt⟩ := ownsRow_value hC.hrow hn
  simp only [Value.slice.injEq, true_and] at e
  obtain ⟨rfl, rfl⟩ := e
  obtain ⟨gC, cap, e, -, hlt2⟩ := ownsRow_value hC.crow hn
  simp only [Value.slice.injEq, true_and] at e
  obtain ⟨rfl, rfl⟩ := e
  have oc : ∀ i v, (opA o.lv o.lt o.tt o.zt o.bl o.bt o.mt o.di)[i]? = some v → w.cell? ⟨go, i, none⟩ = some v := fun i v hv => by rw [cell_of_row w _ _ _ 69 (0, 0) hC.so]; exact hv
  have sc : ∀ i v, (#[.slice (some ⟨gH, 0, none⟩) LL.length hc, ptr go, .slice (some ⟨gC, 0, none⟩) LL.length cc, mv] : Array Value)[i]? = some v → w.cell? ⟨gs, i, none⟩ = some v := fun i v hv => by rw [cell_of_row w _ _ _ 112 (0, 0) hC.sc]; exact hv
  have hcl : cbs.length = LL.length := by have := hC.crow.1; simpa using this
  have hrowH : ∀ j, j < LL.length → w.cell? ⟨gH, j, none⟩ = some (ptr (hds.getD j default).h) := fun j hj => by
    have hj2 : j < hds.length := by rw [hC.len]; exact hj
    have := (own_cell hC.hrow (j := j) (u := ptr (hds.getD j default).h) (by simp [List.getD, List.getElem?_eq_getElem hj2])).2
    rwa [add0] at this
  have hrowC : ∀ j, j < LL.length → w.cell? ⟨gC, j, none⟩ = some (ptr (cbs.getD j 0)) := fun j hj => by
    have hj2 : j < cbs.length := by omega
    have := (own_cell hC.crow (j := j) (u := ptr (cbs.getD j 0)) (by simp [List.getD, List.getElem?_eq_getElem hj2])).2
    rwa [add0] at this
  have hps : (hds.getD 0 default).n = (LL.getD 0 []).length := by
    have h0 := hC.lev 0 hn
    have h1 := h0.pv.len
    rw [← h0.ts, List.length_map]
    omega
  refine ⟨gs, go, gH, gC, hc, cc, fun j => (hds.getD j default).h, fun j => cbs.getD j 0, (hds.getD 0 default).A, (hds.getD 0 default).c, by rw [cell_of_row w _ _ _ 102 (0, 0) hL]; rfl, ⟨lt_of_obj hC.sc, lt_of_obj hC.so, hlt, fun j hj => lt_of_obj (hC.lev j hj).hh.out, sc 0 _ rfl, sc 1 _ rfl, oc 1 _ rfl, oc 2 _ rfl, oc 4 _ rfl, oc 5 _ rfl, oc 6 _ rfl, hrowH, fun j hj => (hC.lev j hj).hh.c.2.1⟩, oc 3 _ rfl, sc 2 _ rfl, hrowC, fun j hj => ?_, ?_⟩
  · have hj2 : j < cbs.length := by omega
    have hm : cbs.getD j 0 ∈ cbs := by simp [List.getD, List.getElem?_eq_getElem hj2]
    rw [cell_of_row w _ _ _ _ _ (hC.cst _ hm)]; rfl
  · rw [← hps]; exact (hC.lev 0 hn).hh.c.1

theorem pickOut_low {w w1 w' : World} {LL : List (List Tb)} {o : Op} {D : Nat → Int} {ty : TypeId} {e : Ending} (h : PickOut w1 LL o D ty e w') (t : Tch [] w w1) : PickOut w LL o D ty e w' := by
  obtain ⟨b, a, c, R, h1, h2, h3⟩ := h
  exact ⟨b, a, c, R, h1, ⟨t.trans h2.t, ownsRow_low h2.row t.size⟩, h3⟩

set_option maxHeartbeats 1000000 in
theorem implPick_any (LL : List (List Tb)) (la : Option Addr) (c : Nat) (o : Op) (w : World) (h : LvAt w LL la c) (hsh : ∀ ts ∈ LL, ∀ t ∈ ts, t.short) (hv : Valid LL o) :
    Calls Try.prog 24 #[.slice la LL.length c, opV o] w (PickOut w LL o (fun _ => 0) 84) := by
  have n2 := hv.op.n2
  have HMD := Lib.hid (fun w' (t : Tch [] w w') => made_valid LL la c o w' (h.tch t) hsh hv)
  have HPK := Lib.hid (fun gL w' (hm : Made w' gL (opA o.lv o.lt o.tt o.zt o.bl o.bt o.mt o.di) LL.length LL) => picked_any LL o (fun _ => 0) gL w' (fun w2 t => by
    obtain ⟨gs, go, gH, gC, hc, cc, hb, cb, a0, c0, h1, h2⟩ := made_pr hm (by omega)
    exact lPick_any LL o gL gs go gH gC hc cc hb cb (fun _ => 0) a0 c0 w2 (cell_tch h1 t) (h2.tch t) hv (fun i _ => by omega)) hv.op.n7)
  have HT0 := Lib.hid ((Tch.refl [] w).alloc (.cells (opA o.lv o.lt o.tt o.zt o.bl o.bt o.mt o.di) 32))
  clear h hsh hv n2
  obtain ⟨lv, lt, tt, zt, bl, bt, mt, di⟩ := o
  go_enter Try.func24, Try.ntmps24
  go_wp2_with (first
    | (go_at_call 31; refine (HMD.out _ HT0.out).mono ?_; rintro e w2 ⟨gL, rfl, h1, h2⟩; have H1 := Lib.hid h1; have H2 := Lib.hid h2; clear h1 h2)
    | (go_at_call 40; refine (HPK.out _ _ H1.out).mono ?_; rintro e w3 ⟨b, a, c3, R, rfl, q1, q2⟩; have Q1 := Lib.hid q1; have Q2 := Lib.hid q2; clear q1 q2))
  go_ret
  exact ⟨b, a, c3, R, rfl, ⟨HT0.out.trans (H2.out.trans Q1.out.t), ownsRow_low Q1.out.row (HT0.out.trans H2.out).size⟩, Q2.out⟩

/-- A plan that begins. -/
theorem newPlan_any (la : Option Addr) (n c : Nat) (o : Op) (b : Nat) (fa : Option Addr) (fn fc : Nat) (w : World) :
    Calls Try.prog 21 #[.slice la n c, opV o, .int .i64 b, .slice fa fn fc] w fun e w' => ∃ gp, e = .returned (ptr gp) ∧ PlanAt w' gp la n c o b (.slice fa fn fc) none 0 0 true ∧ Tch [] w w' ∧ w.heap.size ≤ gp := by
  obtain ⟨lv, lt, tt, zt, bl, bt, mt, di⟩ := o
  have HT0 := Lib.hid ((Tch.refl [] w).alloc (.cells (opA lv lt tt zt bl bt mt di) 32))
  go_enter Try.func21, Try.ntmps21
  go_wp2_with fail
  go_ret
  refine ⟨_, rfl, ⟨by simpa using heap_alloc_new (w.alloc (.cells (opA lv lt tt zt bl bt mt di) 32)) _⟩, HT0.out.alloc _, by simp⟩

theorem equalIn_f (d : Nat) (t : TypeId) (a b : Nat) (w : World) (h : Try.prog.underlying t = some (.float .f64)) : (Op.equalIn (d + 1) t (.float .f64 a) (.float .f64 b)).run Try.prog w = .ok (Ieee.double.order a b == some .eq) w := by
  simp [Op.equalIn, run_underlying h]
  rfl
theorem neq_pri (xl : Int) (xs xa : Nat) (h1 : (Ieee.double.order xs xs == some .eq) = true) (h2 : (Ieee.double.order xa xa == some .eq) = true) (w : World) : (binOp .neq 84 (.agg #[.int .i64 xl, .float .f64 xs, .float .f64 xa]) (.agg #[.int .i64 xl, .float .f64 xs, .float .f64 xa])).run Try.prog w = .ok (.bool false) w := by
  have hS : Try.prog.underlying 84 = some (.struct (Try.prog.fieldsOf 84)) := by kernel_rfl
  have hp : Try.prog.stoodInHeld 84 = false := by kernel_rfl
  have hf := fun a b w => equalIn_f 9998 75 a b w Try.underlying75
  rw [run_neq_struct, show (10000 : Nat) = 9999 + 1 from rfl, run_equalIn_agg w 9999 84 _ _ hS hp]
  simp only [Program.fieldsOf, Try.underlying84]
  go_simp

/-- Lists of priorities that are the same. -/
theorem samePicked_any (l : List PrD) (hv : ∀ x ∈ l, Num x.sc ∧ Val x.adj) (n : Nat) (a1 a2 : Option Addr) (c1 c2 : Nat) (h7 : n ≤ 7) (w1 w2 w : World) (h1 : Own w1 w 84 3 (.slice a1 n c1) n (l.flatMap sC)) (h2 : Own w2 w 84 3 (.slice a2 n c2) n (l.flatMap sC)) :
    Calls Try.prog 23 #[.slice a1 n c1, .slice a2 n c2] w fun e w' => e = .returned (.bool true) ∧ Tch [] w w' := by
  have HO1 := Lib.hid h1
  have HO2 := Lib.hid h2
  have HV := Lib.hid hv
  have hln : l.length = n := by
    have := h1.row.1
    rw [flatC_len] at this
    omega
  have HLN := Lib.hid hln
  have hsf := store_float
  have hn7 : (n : Int) ≤ 7 := by omega
  clear h1 h2 hv hln
  go_enter Try.func23, Try.ntmps23
  go_wp2_with fail
  go_loopg [14] n (fun nn s14 wr => ∃ i : Nat, i ≤ n ∧ nn = n - i ∧ s14 = .int .i64 i ∧ Hid (Tch [] w wr))
  case atStart => exact ⟨0, Nat.zero_le _, rfl, rfl, Lib.hid (Tch.refl _ _)⟩
  case round =>
    obtain ⟨i, hi, rfl, rfl, HZ⟩ := hrel
    rename World => wr
    by_cases hlt : i < n
    · have HLT := Lib.hid hlt
      have hlt2 : (i : Int) < (n : Int) := by omega
      obtain ⟨g, rfl, hrow⟩ := prB_at (HO1.out.tch HZ.out) (by omega)
      obtain ⟨k, rfl, hrow2⟩ := prB_at (HO2.out.tch HZ.out) (by omega)
      have x0 := hrow i hlt 0 (by omega)
      have x1 := hrow i hlt 1 (by omega)
      have x2 := hrow i hlt 2 (by omega)
      have y0 := hrow2 i hlt 0 (by omega)
      have y1 := hrow2 i hlt 1 (by omega)
      have y2 := hrow2 i hlt 2 (by omega)
      have hm := HV.out (l.getD i default) (by simp [List.getD, List.getElem?_eq_getElem (show i < l.length by rw [HLN.out]; exact hlt)])
      generalize l.getD i default = x at *
      obtain ⟨xl, xs, xa⟩ := x
      simp only [sC, List.getElem?_cons_succ, List.getElem?_cons_zero, Nat.add_zero] at x0 x1 x2 y0 y1 y2
      have e1 : (FloatKind.f64.format.order xs xs == some .eq) = true := (eqW_V (.inl hm.1) (.inl hm.1)).trans (decide_eq_true rfl)
      have e2 : (FloatKind.f64.format.order xa xa == some .eq) = true := (eqW_V hm.2 hm.2).trans (decide_eq_true rfl)
      have ta := (Tch.refl [] wr).alloc (.cells #[.int .i64 xl, .float .f64 xs, .float .f64 xa] 84)
      have z0 := cell_tch y0 ta
      have z1 := cell_tch y1 ta
      have z2 := cell_tch y2 ta
      have HTA := Lib.hid (HZ.out.trans ta)
      have hne := fun w => neq_pri (xl : Int) xs xa e1 e2 w
      clear hrow hrow2 hi hlt hm e1 e2 ta y0 y1 y2
      go_wp2_with fail
      go_quiet (fail)
      go_wp2_with fail
      go_roundg (n - (i + 1))
      case rel => exact ⟨i + 1, HLT.out, rfl, by go_num, Lib.hid (HTA.out.drewN _)⟩
      case measure => have := HLT.out; omega
    · obtain rfl : i = n := by omega
      clear hlt hi
      go_wp2_with fail
      go_ret
      exact ⟨rfl, HZ.out⟩

end Go.Proofs.Ytdofgamahjmohaa
