/- spec.Sizes. -/
import Derived.Test.YtdofgamahjmohaaLwH
namespace Go.Proofs.Ytdofgamahjmohaa
open Go.RowKit Go.Deep
set_option maxRecDepth 100000

/-- A row in the making, the options in a box. -/
structure RS (w0 w : World) (bx g n : Nat) (oa : Array Value) (f : Nat → Int) : Prop where
  t : Tch [] w0 w
  lo : w0.heap.size ≤ g
  box : w.heap[bx]? = some (.cells oa 32 (0, 0))
  row : w.heap[g]? = some (.cells (arr n f) 2 (0, 0))
theorem RS.tch {w0 w w' : World} {bx g n : Nat} {oa : Array Value} {f : Nat → Int} (h : RS w0 w bx g n oa f) (k : Tch [] w w') : RS w0 w' bx g n oa f := ⟨h.t.trans k, h.lo, k.obj h.box (by simp), k.obj h.row (by simp)⟩
theorem RS.congr {w0 w : World} {bx g n : Nat} {oa : Array Value} {f f' : Nat → Int} (h : RS w0 w bx g n oa f) (hf : ∀ i, i < n → f i = f' i) : RS w0 w bx g n oa f' := ⟨h.t, h.lo, h.box, by rw [← arr_congr hf]; exact h.row⟩
theorem RS.set {w0 w : World} {bx g n : Nat} {oa : Array Value} {f : Nat → Int} (h : RS w0 w bx g n oa f) (i : Nat) (v : Int) : RS w0 (w.setCell ⟨g, i, none⟩ (.int .i64 v)) bx g n oa (fun j => if j = i then v else f j) := by
  have ts : Tch [g] w (w.setCell ⟨g, i, none⟩ (.int .i64 v)) := (Tch.refl _ _).setCell (p := ⟨g, i, none⟩) (fun _ => by simp) _
  refine ⟨h.t.then ts (fun k hk hm => absurd hk (by rw [List.mem_singleton.1 hm]; have := h.lo; omega)), h.lo, ts.obj h.box (fun hm => cells_ne h.box h.row (by decide) (List.mem_singleton.1 hm)), by rw [heap_setCell_same w g i _ _ _ h.row, arr_set]⟩
theorem RS.cells {w0 w : World} {bx g n : Nat} {oa : Array Value} {f : Nat → Int} (h : RS w0 w bx g n oa f) : (∀ i v, oa[i]? = some v → w.cell? ⟨bx, i, none⟩ = some v) ∧ (∀ i, i < n → w.cell? ⟨g, i, none⟩ = some (.int .i64 (f i))) ∧ ∀ i, w.frozen? ⟨g, i, none⟩ = false := by
  refine ⟨fun i v hv => ?_, fun i hi => ?_, fun i => ?_⟩
  · rw [cell_of_row w _ _ _ 32 (0, 0) h.box]; exact hv
  · rw [cell_of_row w _ _ _ 2 (0, 0) h.row]; exact arr_at hi
  · simp only [World.frozen?, h.row]; first | rfl | simp
theorem RS.iat {w0 w : World} {bx g n : Nat} {oa : Array Value} {f : Nat → Int} (h : RS w0 w bx g n oa f) : IAt w ((List.range n).map f) (some ⟨g, 0, none⟩) := by
  refine ⟨fun e => by simp at e, fun ad e j hj => ?_⟩
  obtain rfl := Option.some.inj e
  have hj2 : j < n := by simpa using hj
  have e2 : ((List.range n).map f).getD j 0 = f j := by simp [List.getD, hj2]
  have e1 : (⟨g, 0, none⟩ : Addr).add j = ⟨g, j, none⟩ := by unfold Addr.add; split <;> simp_all
  rw [e2, e1]
  exact ⟨lt_of_obj h.row, h.cells.2.1 j hj2⟩

set_option maxHeartbeats 2000000 in
theorem spec_Sizes_any (LL : List (List Tb)) (la : Option Addr) (c : Nat) (o : Op) (w : World) (h : LvAt w LL la c) (hv : Valid LL o) :
    Calls Try.prog 34 #[.slice la LL.length c, opV o] w fun e w' => ∃ g : Nat, e = .returned (.slice (some ⟨g, 0, none⟩) LL.length LL.length) ∧ IAt w' ((List.range LL.length).map (tgs LL o)) (some ⟨g, 0, none⟩) ∧ Tch [] w w' := by
  obtain ⟨m, hm⟩ : ∃ m, LL.length = m + 2 := ⟨LL.length - 2, by have := hv.op.n2; omega⟩
  have h7 := hv.op.n7
  have mi : (m : Int) ≤ 5 := by omega
  have hmk := fun (w : World) => run_make_row' (P := Try.prog) 35 2 (.int .i64 0) 8 Try.underlying35 Try.infoI64 rfl .i64 .i64 (m + 2) (by omega) (by omega) w
  have ec : ((m + 2 : Nat) : Int) = (m : Int) + 2 := by omega
  rw [ec] at hmk
  simp only [arr_made] at hmk
  have HLA := Lib.hid (fun w' (t : Tch [] w w') => h.tch t)
  have HSZ := Lib.hid (fun j hj => szs_bound hv (j := j) hj)
  have HF := Lib.hid hv.fine
  have H3 := Lib.hid hv.few
  have HOP := Lib.hid hv.op
  obtain ⟨lv, lt, tt, zt, bl, bt, mt, di⟩ := o
  have HM := Lib.hid hm
  have HTG : Hid (∀ i, tgs LL ⟨lv, lt, tt, zt, bl, bt, mt, di⟩ i = tg (m + 2) (szs LL (m + 1)) lt bl i) := Lib.hid (fun i => by unfold tgs; rw [hm]; rfl)
  cases la with
  | none => have := (h.nil rfl).2; rw [this] at hm; simp at hm
  | some ad =>
  obtain ⟨hab, ta, tc, hc0, hT0⟩ := h.at' ad rfl (m + 1) (by omega)
  have HB0 : Hid (RS w ((w.alloc (.cells (opA lv lt tt zt bl bt mt di) 32)).alloc (.cells (arr (m + 2) (fun _ => 0)) 2)) w.heap.size (w.heap.size + 1) (m + 2) (opA lv lt tt zt bl bt mt di) (fun _ => 0)) := Lib.hid ⟨((Tch.refl _ _).alloc _).alloc _, by omega, (box2 w (.cells (opA lv lt tt zt bl bt mt di) 32) (.cells (arr (m + 2) (fun _ => 0)) 2)).1, (box2 w (.cells (opA lv lt tt zt bl bt mt di) 32) (.cells (arr (m + 2) (fun _ => 0)) 2)).2⟩
  have HTO := Lib.hid (fun w' (t : Tch [] w w') => spec_total_any (LL.getD (m + 1) []) ta tc w' (hT0.tch t) (H3.out _ (by simp [List.getD, List.getElem?_eq_getElem (show m + 1 < LL.length by omega)])) (HF.out _ (by simp [List.getD, List.getElem?_eq_getElem (show m + 1 < LL.length by omega)])))
  have HC0 := Lib.hid (fun w' (t : Tch [] w w') => (t.cell (p := ad.add (m + 1)) (by rw [add_block]; exact hab) (by simp)).trans hc0)
  have hs : tsum Tb.bytes (LL.getD (m + 1) []) = szs LL (m + 1) := rfl
  rw [hs] at HTO
  generalize hl : (LL.getD (m + 1) []).length = l0 at *
  rw [hm]
  have x0 := HC0.out _ HB0.out.t
  have ea : ad.add (m + 1) = ⟨ad.block, ad.off + (m + 1), none⟩ := by unfold Addr.add; simp
  rw [ea] at x0
  clear h hv hm ec hc0 hT0 hab hs hl ea
  go_enter Try.func34, Try.ntmps34
  go_upto_region 3 with (go_at_call 39; refine (HTO.out _ HB0.out.t).mono ?_; rintro e w1 ⟨rfl, t⟩; have HS := Lib.hid (HB0.out.tch t); clear t)
  clear x0
  go_wp2_with fail
  go_loopg [6, 7] (m + 1) (fun nn s6 s7 wr => ∃ k : Nat, k ≤ m + 1 ∧ k = nn ∧ s6 = .int .i64 (dbF (szs LL (m + 1)) lt (m + 1 - k)) ∧ s7 = .int .i64 k ∧ Hid (RS w wr w.heap.size (w.heap.size + 1) (m + 2) (opA lv lt tt zt bl bt mt di) (fun j => if k < j then tg (m + 2) (szs LL (m + 1)) lt bl j else 0)))
  case atStart =>
    refine ⟨m + 1, Nat.le_refl _, rfl, by rw [Nat.sub_self]; rfl, by go_num, HS.out.congr (fun i hi => ?_)⟩
    rw [if_neg (by omega)]
  case round =>
    obtain ⟨k, hk, rfl, rfl, rfl, HR⟩ := hrel
    cases k with
    | zero =>
      have HE := Lib.hid (HR.out.congr (f' := tgs LL ⟨lv, lt, tt, zt, bl, bt, mt, di⟩) (fun i _ => by
        rw [HTG.out]
        by_cases e : i = 0
        · rw [if_neg (by omega), e]; rfl
        · rw [if_pos (by omega)]))
      clear HR
      go_wp2_with fail
      go_ret
      exact ⟨w.heap.size + 1, rfl, HE.out.iat, HE.out.t⟩
    | succ q =>
      have htg : tg (m + 2) (szs LL (m + 1)) lt bl (q + 1) = if dbF (szs LL (m + 1)) lt (m + 1 - (q + 1)) < bl then bl else dbF (szs LL (m + 1)) lt (m + 1 - (q + 1)) := by
        unfold tg
        rw [if_neg (by omega), show m + 2 - 1 - (q + 1) = m + 1 - (q + 1) by omega]
      have hqm : (q : Int) + 1 < (m : Int) + 2 := by omega
      obtain ⟨cO, cR, fz⟩ := HR.out.cells
      have o1 := cO 1 _ rfl
      have o4 := cO 4 _ rfl
      have x1 := cR (q + 1) (by omega)
      have f1 := fz (q + 1)
      have hset : ∀ j, j < m + 2 → (if j = q + 1 then tg (m + 2) (szs LL (m + 1)) lt bl (q + 1) else if q + 1 < j then tg (m + 2) (szs LL (m + 1)) lt bl j else 0) = if q < j then tg (m + 2) (szs LL (m + 1)) lt bl j else 0 := fun j _ => by
        by_cases e : j = q + 1
        · rw [if_pos e, if_pos (by omega), e]
        · by_cases e2 : q + 1 < j
          · rw [if_neg e, if_pos e2, if_pos (by omega)]
          · rw [if_neg e, if_neg e2, if_neg (by omega)]
      have HSA := Lib.hid ((HR.out.set (q + 1) (tg (m + 2) (szs LL (m + 1)) lt bl (q + 1))).congr hset)
      generalize hdb : dbF (szs LL (m + 1)) lt (m + 1 - (q + 1)) = db at *
      generalize htv : tg (m + 2) (szs LL (m + 1)) lt bl (q + 1) = tv at *
      have HTV := Lib.hid htv
      have HDB := Lib.hid hdb
      have HDBQ : Hid (db.tdiv lt = dbF (szs LL (m + 1)) lt (m + 1 - q)) := Lib.hid (by
        rw [show m + 1 - q = (m + 1 - (q + 1)) + 1 by omega]; show _ = (dbF _ _ _).tdiv lt; rw [HDB.out])
      have hwq : IntKind.i64.wrap (db.tdiv lt) = db.tdiv lt := by
        obtain ⟨h0, h0b, -⟩ := HSZ.out (m + 1) (by have := HM.out; omega)
        have h1 := dbF_nonneg h0 (show 1 ≤ lt from HOP.out.lt1) (m + 1 - q)
        have h2 := dbF_le h0 (show 1 ≤ lt from HOP.out.lt1) (m + 1 - q)
        rw [HDBQ.out]
        exact wrapT (by omega) (by omega)
      have hl0 : decide (lt = 0) = false := by have : 1 ≤ lt := HOP.out.lt1; simp; omega
      have hl1 : (lt == 0) = false := by have : 1 ≤ lt := HOP.out.lt1; simp; omega
      have hl2 : ¬ lt = 0 := by have : 1 ≤ lt := HOP.out.lt1; omega
      clear hset htv hdb cO cR fz
      have hmx : max db bl = tv := by rw [htg]; split <;> omega
      clear htg
      go_upto_region 7 with fail
      clear o1 o4 x1 f1 hmx
      generalize wr.setCell ⟨w.heap.size + 1, q + 1, none⟩ (.int .i64 tv) = wz at *
      have o1 := HSA.out.cells.1 1 _ rfl
      go_wp2_with fail
      go_roundg q
      case rel => exact ⟨q, by omega, rfl, by rw [← HDBQ.out], by go_num, HSA.out⟩
      case measure => omega

end Go.Proofs.Ytdofgamahjmohaa
