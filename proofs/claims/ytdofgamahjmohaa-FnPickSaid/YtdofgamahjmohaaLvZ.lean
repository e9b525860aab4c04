/- badgerlevels.New: the walk. -/
import Derived.Test.YtdofgamahjmohaaLvY
namespace Go.Proofs.Ytdofgamahjmohaa
open Go.Shelf Go.RowKit
set_option maxRecDepth 100000

instance : Inhabited HD := ⟨⟨0, none, 0, 0, []⟩⟩

/-- The controller with its first levels (i handlers, k statuses). -/
structure Ctl (b : Nat) (w : World) (gs go : Nat) (oa : Array Value) (HA CA : Option Addr) (i hc k cc : Nat) (mv : Value) (hds : List HD) (cbs : List Nat) (LL : List (List Tb)) : Prop where
  so : w.heap[go]? = some (.cells oa 69 (0, 0))
  sc : w.heap[gs]? = some (.cells #[.slice HA i hc, ptr go, .slice CA k cc, mv] 112 (0, 0))
  hrow : w.ownsRow b 104 1 (.slice HA i hc) i (hds.map (fun d => ptr d.h))
  crow : w.ownsRow b 126 1 (.slice CA k cc) k (cbs.map ptr)
  cst : ∀ g ∈ cbs, w.heap[g]? = some (.cells #[.slice none 0 0, .int .i64 0] 129 (0, 0))
  len : hds.length = i
  lev : ∀ j, j < i → Lev w go j (hds.getD j default) (LL.getD j [])

theorem Ctl.tch {b : Nat} {w w' : World} {gs go : Nat} {oa : Array Value} {HA CA : Option Addr} {i hc k cc : Nat} {mv : Value} {hds : List HD} {cbs : List Nat} {LL : List (List Tb)} (h : Ctl b w gs go oa HA CA i hc k cc mv hds cbs LL) (t : Tch [] w w') : Ctl b w' gs go oa HA CA i hc k cc mv hds cbs LL :=
  ⟨t.obj h.so (by simp), t.obj h.sc (by simp), t.own h.hrow (by simp), t.own h.crow (by simp), fun g hg => t.obj (h.cst g hg) (by simp), h.len, fun j hj => (h.lev j hj).tch t⟩

theorem sc_cells {w : World} {gs : Nat} {a b c d : Value} (h : w.heap[gs]? = some (.cells #[a, b, c, d] 112 (0, 0))) :
    (w.cell? ⟨gs, 0, none⟩ = some a ∧ w.cell? ⟨gs, 1, none⟩ = some b ∧ w.cell? ⟨gs, 2, none⟩ = some c ∧ w.cell? ⟨gs, 3, none⟩ = some d) ∧ ∀ i, w.frozen? ⟨gs, i, none⟩ = false := by
  refine ⟨⟨?_, ?_, ?_, ?_⟩, fun i => ?_⟩
  all_goals first
    | (rw [cell_of_row w _ _ _ 112 (0, 0) h]; rfl)
    | (simp only [World.frozen?, h]; first | rfl | simp)

/-- One handler more. -/
theorem Ctl.more {b : Nat} {wb w7 : World} {gs go : Nat} {oa : Array Value} {HA CA : Option Addr} {i hc k cc : Nat} {mv : Value} {hds : List HD} {cbs : List Nat} {LL : List (List Tb)} (h : Ctl b wb gs go oa HA CA i hc k cc mv hds cbs LL) {d : HD} (hd : Lev wb go i d (LL.getD i [])) {g' c' : Nat}
    (t3 : Tch (Value.slice HA i hc).ownBlock.toList wb w7) (ho : w7.ownsRow b 104 1 (.slice (some ⟨g', 0, none⟩) (i + 1) c') (i + 1) (hds.map (fun d => ptr d.h) ++ [ptr d.h])) :
    w7.heap[gs]? = some (.cells #[.slice HA i hc, ptr go, .slice CA k cc, mv] 112 (0, 0)) ∧
    Ctl b (w7.setCell ⟨gs, 0, none⟩ (.slice (some ⟨g', 0, none⟩) (i + 1) c')) gs go oa (some ⟨g', 0, none⟩) CA (i + 1) c' k cc mv (hds ++ [d]) cbs LL := by
  have hS := own_blocks h.hrow
  have sc7 := obj_keep h.sc t3 h.hrow (by decide)
  have so7 := obj_keep h.so t3 h.hrow (by decide)
  have ts : Tch [gs] w7 (w7.setCell ⟨gs, 0, none⟩ (.slice (some ⟨g', 0, none⟩) (i + 1) c')) := (Tch.refl _ _).setCell (p := ⟨gs, 0, none⟩) (fun _ => by simp) _
  have hS2 : ∀ g ∈ [gs], ∃ cur fr, w7.heap[g]? = some (.cells cur 112 fr) := fun g hm => by
    obtain rfl := List.mem_singleton.1 hm
    exact ⟨_, _, sc7⟩
  have ne : ∀ {g : Nat} {cs : Array Value} {ty : TypeId}, w7.heap[g]? = some (.cells cs ty (0, 0)) → ty ≠ 112 → g ∉ [gs] := fun hg ht hm => by
    obtain rfl := List.mem_singleton.1 hm
    exact absurd rfl (cells_ne hg sc7 ht)
  refine ⟨sc7, ts.obj so7 (ne so7 (by decide)), by rw [heap_setCell_same w7 gs 0 _ _ _ sc7]; rfl, by rw [List.map_append]; exact row_keep ho ts hS2 (by decide), row_keep (row_keep h.crow t3 hS (by decide)) ts hS2 (by decide), fun g hg => ?_, by rw [List.length_append, h.len]; rfl, fun j hj => ?_⟩
  · have := obj_keep (h.cst g hg) t3 h.hrow (by decide)
    exact ts.obj this (ne this (by decide))
  · by_cases e : j = i
    · subst e
      have e1 : (hds ++ [d]).getD j default = d := by rw [← h.len]; simp [List.getD]
      rw [e1]
      exact (hd.keep t3 hS (by decide) (by decide) (by decide) (by decide)).keep ts hS2 (by decide) (by decide) (by decide) (by decide)
    · have hji : j < hds.length := by rw [h.len]; omega
      have e1 : (hds ++ [d]).getD j default = hds.getD j default := by simp [List.getD, List.getElem?_append_left hji]
      rw [e1]
      exact ((h.lev j (by omega)).keep t3 hS (by decide) (by decide) (by decide) (by decide)).keep ts hS2 (by decide) (by decide) (by decide) (by decide)

/-- One status more. -/
theorem Ctl.moreC {b : Nat} {wb w7 : World} {gs go : Nat} {oa : Array Value} {HA CA : Option Addr} {i hc k cc : Nat} {mv : Value} {hds : List HD} {cbs : List Nat} {LL : List (List Tb)} (h : Ctl b wb gs go oa HA CA i hc k cc mv hds cbs LL) {gc : Nat} (hg : wb.heap[gc]? = some (.cells #[.slice none 0 0, .int .i64 0] 129 (0, 0))) {g' c' : Nat}
    (t3 : Tch (Value.slice CA k cc).ownBlock.toList wb w7) (ho : w7.ownsRow b 126 1 (.slice (some ⟨g', 0, none⟩) (k + 1) c') (k + 1) (cbs.map ptr ++ [ptr gc])) :
    w7.heap[gs]? = some (.cells #[.slice HA i hc, ptr go, .slice CA k cc, mv] 112 (0, 0)) ∧
    Ctl b (w7.setCell ⟨gs, 2, none⟩ (.slice (some ⟨g', 0, none⟩) (k + 1) c')) gs go oa HA (some ⟨g', 0, none⟩) i hc (k + 1) c' mv hds (cbs ++ [gc]) LL := by
  have hS := own_blocks h.crow
  have sc7 := obj_keep h.sc t3 h.crow (by decide)
  have so7 := obj_keep h.so t3 h.crow (by decide)
  have ts : Tch [gs] w7 (w7.setCell ⟨gs, 2, none⟩ (.slice (some ⟨g', 0, none⟩) (k + 1) c')) := (Tch.refl _ _).setCell (p := ⟨gs, 2, none⟩) (fun _ => by simp) _
  have hS2 : ∀ g ∈ [gs], ∃ cur fr, w7.heap[g]? = some (.cells cur 112 fr) := fun g hm => by
    obtain rfl := List.mem_singleton.1 hm
    exact ⟨_, _, sc7⟩
  have ne : ∀ {g : Nat} {cs : Array Value} {ty : TypeId}, w7.heap[g]? = some (.cells cs ty (0, 0)) → ty ≠ 112 → g ∉ [gs] := fun hg ht hm => by
    obtain rfl := List.mem_singleton.1 hm
    exact absurd rfl (cells_ne hg sc7 ht)
  refine ⟨sc7, ts.obj so7 (ne so7 (by decide)), by rw [heap_setCell_same w7 gs 2 _ _ _ sc7]; rfl, row_keep (row_keep h.hrow t3 hS (by decide)) ts hS2 (by decide), by rw [List.map_append]; exact row_keep ho ts hS2 (by decide), fun g hgm => ?_, h.len, fun j hj => ((h.lev j hj).keep t3 hS (by decide) (by decide) (by decide) (by decide)).keep ts hS2 (by decide) (by decide) (by decide) (by decide)⟩
  have q : wb.heap[g]? = some (.cells #[.slice none 0 0, .int .i64 0] 129 (0, 0)) := by
    rcases List.mem_append.1 hgm with hm | hm
    · exact h.cst g hm
    · obtain rfl := List.mem_singleton.1 hm; exact hg
  have := obj_keep q t3 h.crow (by decide)
  exact ts.obj this (ne this (by decide))

theorem PlRow.tch {b : Nat} {w w' : World} {qs : List (List (Tb × Nat × Nat) × Option Addr × Nat)} {a : Option Addr} {n c : Nat} (h : PlRow b w qs a n c) (k : Tch [] w w') : PlRow b w' qs a n c :=
  ⟨k.own h.row (by simp), fun q hq => (h.all q hq).tch k⟩

theorem ctl_start (w : World) (oa : Array Value) (LL : List (List Tb)) : Ctl w.heap.size (((w.alloc (.cells oa 69)).alloc (.map #[] 0)).alloc (.cells #[.slice none 0 0, ptr w.heap.size, .slice none 0 0, .map (some (w.heap.size + 1))] 112)) (w.heap.size + 1 + 1) w.heap.size oa none none 0 0 0 0 (.map (some (w.heap.size + 1))) [] [] LL := by
  refine ⟨?_, ?_, World.ownsRow_nil _ _ _ _, World.ownsRow_nil _ _ _ _, by simp, rfl, fun j hj => absurd hj (Nat.not_lt_zero j)⟩
  · rw [heap_get_alloc, if_neg (by simp; omega), heap_get_alloc, if_neg (by simp), heap_get_alloc, if_pos rfl]
  · rw [heap_get_alloc, if_pos (by simp)]

theorem Try.infoPtrH : (Try.prog.info? 104).map (fun i => (i.zero, i.size, i.bytes)) = some (some (.pointer none), 1, 8) := by kernel_rfl
theorem Try.infoPtrC : (Try.prog.info? 126).map (fun i => (i.zero, i.size, i.bytes)) = some (some (.pointer none), 1, 8) := by kernel_rfl

/-- Levels that have been made. -/
def Made (w : World) (gL : Nat) (oa : Array Value) (n : Nat) (LL : List (List Tb)) : Prop :=
  ∃ b gs go HA CA hc cc mv hds cbs, w.heap[gL]? = some (.cells #[ptr gs, .slice none 0 0] 102 (0, 0)) ∧ Ctl b w gs go oa HA CA n hc n cc mv hds cbs LL

theorem Try.infoPtr : (Try.prog.info? 124).map (fun i => (i.zero, i.size, i.bytes)) = some (some (.pointer none), 1, 8) := by kernel_rfl

set_option maxHeartbeats 4000000 in
theorem new_any (qs : List (List (Tb × Nat × Nat) × Option Addr × Nat)) (a : Option Addr) (n c : Nat) (lt tt zt bl bt mt di : Int) (w : World) (LL : List (List Tb)) (hq : qTs qs = LL) (hn : n = LL.length) (h7 : n ≤ 7) (hpl : PlRow 0 w qs a n c) (h30 : ∀ ts ∈ LL, ts.length ≤ 30)
    (hgd : ∀ ts ∈ LL, ∀ t ∈ ts, t.good ∧ t.fine) (hord : ∀ m, m < n → InOrd (decide (m = 0)) (LL.getD m [])) :
    Calls Try.prog 44 #[.slice a n c, .agg #[.int .i64 n, .int .i64 lt, .int .i64 tt, .int .i64 zt, .int .i64 bl, .int .i64 bt, .int .i64 mt, .int .u64 di]] w (fun e w' => ∃ gL, e = .returned (ptr gL) ∧ Made w' gL #[.int .i64 n, .int .i64 lt, .int .i64 tt, .int .i64 zt, .int .i64 bl, .int .i64 bt, .int .i64 mt, .int .u64 di] n LL ∧ Tch [] w w') := by
  have n7 : (n : Int) ≤ 7 := by omega
  have hmm := @run_makeMap Try.prog
  have HQ := Lib.hid hq
  have HN := Lib.hid hn
  have HPL := Lib.hid hpl
  have H30 := Lib.hid h30
  have HGD := Lib.hid hgd
  have HORD := Lib.hid hord
  have HST := Lib.hid (ctl_start w #[.int .i64 n, .int .i64 lt, .int .i64 tt, .int .i64 zt, .int .i64 bl, .int .i64 bt, .int .i64 mt, .int .u64 di] LL)
  have HT0 : Hid (Tch [] w (((w.alloc (.cells #[.int .i64 n, .int .i64 lt, .int .i64 tt, .int .i64 zt, .int .i64 bl, .int .i64 bt, .int .i64 mt, .int .u64 di] 69)).alloc (.map #[] 0)).alloc (.cells #[.slice none 0 0, ptr w.heap.size, .slice none 0 0, .map (some (w.heap.size + 1))] 112))) := Lib.hid ((((Tch.refl _ _).alloc _).alloc _).alloc _)
  clear hq hn hpl h30 hgd hord
  go_enter Try.func44, Try.ntmps44
  go_wp2_with fail
  go_loopg [6] n (fun nn s6 wr => ∃ i : Nat, i ≤ n ∧ nn = n - i ∧ s6 = .int .i64 i ∧ Hid (∃ HA CA hc cc hds cbs, Ctl w.heap.size wr (w.heap.size + 1 + 1) w.heap.size #[.int .i64 n, .int .i64 lt, .int .i64 tt, .int .i64 zt, .int .i64 bl, .int .i64 bt, .int .i64 mt, .int .u64 di] HA CA i hc i cc (.map (some (w.heap.size + 1))) hds cbs LL ∧ Tch [] w wr))
  case atStart => exact ⟨0, Nat.zero_le _, rfl, rfl, _, _, _, _, _, _, HST.out, HT0.out⟩
  case round =>
    obtain ⟨i, hi, rfl, rfl, HR⟩ := hrel
    rename World => w1
    obtain ⟨HA, CA, hc, cc, hds, cbs, hctl, ht1⟩ := HR.out
    have o0 : w1.cell? ⟨w.heap.size, 0, none⟩ = some (.int .i64 n) := by rw [cell_of_row w1 _ _ _ 69 (0, 0) hctl.so]; rfl
    have HT1 := Lib.hid ht1
    have HCT := Lib.hid hctl
    clear hctl ht1 HR HST HT0
    by_cases hlt : i < n
    · have hlt2 : (i : Int) < n := by omega
      have hql : qs.length = n := by have h := HN.out; rw [← HQ.out] at h; simp [qTs] at h; omega
      have hqm : qs.getD i ([], none, 0) ∈ qs := by simp [List.getD, List.getElem?_eq_getElem (show i < qs.length by omega)]
      have hqt : (qs.getD i ([], none, 0)).1.map (·.1) = LL.getD i [] := by rw [← HQ.out]; simp [qTs, List.getD, List.getElem?_eq_getElem (show i < qs.length by omega)]
      cases a with
      | none =>
        obtain ⟨g, cap, e, -⟩ := ownsRow_value HPL.out.row (by omega)
        simp at e
      | some ad =>
      have HOC := Lib.hid (fun (w' : World) (t : Tch [] w w') => (own_cell (HPL.out.tch t).row (j := i) (u := .slice (qs.getD i ([], none, 0)).2.1 (qs.getD i ([], none, 0)).1.length (qs.getD i ([], none, 0)).2.2) (by simp [List.getD, List.getElem?_eq_getElem (show i < qs.length by omega)])).2)
      have HPT := Lib.hid (fun (w' : World) (t : Tch [] w w') => (HPL.out.all _ hqm).tch t)
      have HLL := Lib.hid hqt
      have hmem : LL.getD i [] ∈ LL := by have := HN.out; simp [List.getD, List.getElem?_eq_getElem (show i < LL.length by omega)]
      have HGI := Lib.hid (HGD.out _ hmem)
      have HL30 := Lib.hid (H30.out _ hmem)
      generalize (qs.getD i ([], none, 0)).1 = ps at *
      generalize (qs.getD i ([], none, 0)).2.1 = pa at *
      generalize (qs.getD i ([], none, 0)).2.2 = pc at *
      have HLT := Lib.hid hlt
      have hp30 : (ps.length : Int) ≤ 30 := by have := HL30.out; rw [← HLL.out, List.length_map] at this; omega
      have HBH : Hid ((w1.alloc (.cells #[.slice none 0 0, .int .i64 0, .int .i64 0, .int .i64 i, ptr w.heap.size] 123)).heap[w1.heap.size]? = some (.cells #[.slice none 0 0, .int .i64 0, .int .i64 0, .int .i64 i, ptr w.heap.size] 123 (0, 0))) := Lib.hid (by rw [heap_get_alloc, if_pos rfl])
      have HTH : Hid (Tch [] w1 (w1.alloc (.cells #[.slice none 0 0, .int .i64 0, .int .i64 0, .int .i64 i, ptr w.heap.size] 123))) := Lib.hid ((Tch.refl _ _).alloc _)
      have HBS : Hid (BoxAt (w1.alloc (.cells #[.slice none 0 0, .int .i64 0, .int .i64 0, .int .i64 i, ptr w.heap.size] 123)) (w1.alloc (.cells #[.slice none 0 0, .int .i64 0, .int .i64 0, .int .i64 i, ptr w.heap.size] 123)) ps 0 none 0 []) := Lib.hid ⟨World.ownsRow_nil _ _ _ _, rfl, by simp, Tch.refl _ _⟩
      have hc0 := HOC.out _ (HT1.out.trans HTH.out)
      clear hql hqm hqt hmem hlt
      go_wp2_with fail
      go_loopg [8, 33] ps.length (fun nn s8 s33 wx => ∃ (j : Nat) (la : Option Addr) (lc : Nat), j ≤ ps.length ∧ nn = ps.length - j ∧ s8 = .slice la j lc ∧ s33 = .int .i64 j ∧ Hid (∃ bs, BoxAt (w1.alloc (.cells #[.slice none 0 0, .int .i64 0, .int .i64 0, .int .i64 i, ptr w.heap.size] 123)) wx ps j la lc bs))
      case atStart => exact ⟨0, _, _, Nat.zero_le _, rfl, rfl, rfl, [], HBS.out⟩
      case round =>
        obtain ⟨j, la, lc, hj, rfl, rfl, rfl, HJ⟩ := hrel
        rename World => wx
        obtain ⟨bs, hbs⟩ := HJ.out
        have HTX : Hid (Tch [] w wx) := Lib.hid (HT1.out.trans (HTH.out.trans hbs.t))
        have HBS2 := Lib.hid hbs
        clear hbs HJ HBS hc0
        have hc1 := HOC.out wx HTX.out
        by_cases hlt : j < ps.length
        · have hlt2 : (j : Int) < ps.length := by omega
          have hpt := HPT.out wx HTX.out
          cases pa with
          | none =>
            obtain ⟨g, cap, e, -⟩ := ownsRow_value hpt.row (by omega)
            simp at e
          | some pd =>
          obtain ⟨-, x0, hx⟩ := hpt.cells hlt
          have hpm : ps.getD j default ∈ ps := by simp [List.getD, hlt]
          have hk1 := hpt.k1 _ hpm
          have hk2 := hpt.k2 _ hpm
          have HSTEP := Lib.hid (fun (w2 w3 : World) (gb g' c' : Nat) (t2 : Tch [] wx w2) (hb : PtBox w2 gb (ps.getD j default).1) (t3 : Tch (Value.slice la j lc).ownBlock.toList w2 w3) (ho : w3.ownsRow (w1.alloc (.cells #[.slice none 0 0, .int .i64 0, .int .i64 0, .int .i64 i, ptr w.heap.size] 123)).heap.size 124 1 (.slice (some ⟨g', 0, none⟩) (j + 1) c') (j + 1) (bs.map (fun p => ptr p.1) ++ [ptr gb])) => HBS2.out.step hlt t2 hb t3 ho)
          have HBX : Hid (PtBox (wx.alloc (.cells (ptL (ps.getD j default)).toArray 94)) wx.heap.size (ps.getD j default).1) := Lib.hid ⟨(ps.getD j default).2.1, (ps.getD j default).2.2, by rw [heap_get_alloc, if_pos rfl], hk1.tch ((Tch.refl _ _).alloc _), hk2.tch ((Tch.refl _ _).alloc _)⟩
          have HLTJ := Lib.hid hlt
          clear hpt hk1 hk2 hpm hlt
          generalize ps.getD j default = p at *
          obtain ⟨⟨num, t1, ⟨l1, v1⟩, t2, ⟨l2, v2⟩, bytes, ver, stale, age⟩, g1, g2⟩ := p
          have x1 := hx 1 _ (by omega) rfl
          have x2 := hx 2 _ (by omega) rfl
          have x3 := hx 3 _ (by omega) rfl
          have x4 := hx 4 _ (by omega) rfl
          have x5 := hx 5 _ (by omega) rfl
          have x6 := hx 6 _ (by omega) rfl
          clear hx
          obtain ⟨i0, hinf, hz0, hz1, hz2⟩ := info_parts Try.infoPtr
          have hA := own_app (ty := 121) Try.underlying121 hinf hz0 hz1 hz2 rfl (by decide) (by decide) #[ptr wx.heap.size]
            (⟨HBS2.out.t.trans ((Tch.refl _ _).alloc _), Tch.own (S := []) ((Tch.refl _ _).alloc _) HBS2.out.row (by simp)⟩ : Own (w1.alloc (.cells #[.slice none 0 0, .int .i64 0, .int .i64 0, .int .i64 i, ptr w.heap.size] 123)) (wx.alloc (.cells (ptL (⟨num, t1, ⟨l1, v1⟩, t2, ⟨l2, v2⟩, bytes, ver, stale, age⟩, g1, g2)).toArray 94)) _ _ _ _ _) (by omega) rfl (by simp [Value.oneCell'])
          rw [show (wx.alloc (.cells (ptL (⟨num, t1, ⟨l1, v1⟩, t2, ⟨l2, v2⟩, bytes, ver, stale, age⟩, g1, g2)).toArray 94)).heap.size = wx.heap.size + 1 by simp] at hA
          have HA := Lib.hid hA
          clear hA hinf hz0 hz1 hz2
          go_wp2_with (at_builtin; refine wpList_append_run rfl (.tmp 43) (.tmp 44) 121 rfl (.slice la j lc) (.slice (some ⟨wx.heap.size + 1, 0, none⟩) 1 1) (by simp [Act.eval]) (by simp [Act.eval]) _ HA.out ?_; rintro vv w7 ⟨g7, c7, rfl, m1, m2, m3, m4, m5⟩; have HSS := Lib.hid (HSTEP.out _ w7 _ g7 c7 ((Tch.refl _ _).alloc _) HBX.out m4 m1.row); clear m1 m2 m3 m4 m5)
          go_roundg (ps.length - (j + 1))
          case rel => exact ⟨j + 1, _, _, by have := HLTJ.out; omega, rfl, rfl, by go_num, _, HSS.out⟩
          case measure => have := HLTJ.out; omega
        · obtain rfl : j = ps.length := by omega
          have hbm : bs.map (·.2) = LL.getD i [] := by rw [HBS2.out.ts, ← HLL.out, List.take_of_length_le (by simp)]
          have hpv : PtsV wx la ps.length lc bs := ⟨ownsRow_base HBS2.out.row, fun p hp => ⟨HBS2.out.box p hp, (HGI.out p.2 (by rw [← hbm]; exact List.mem_map_of_mem hp)).1⟩⟩
          have hh : HCells wx w1.heap.size none 0 0 0 0 i (ptr w.heap.size) := ⟨HBS2.out.t.obj HBH.out (by simp)⟩
          have hdi : decide ((i : Int) = 0) = decide (i = 0) := by simp
          have HIT := Lib.hid (initTables_any w1.heap.size 0 0 ps.length lc none la bs 0 0 i (ptr w.heap.size) wx hh hpv (fun p hp => (HGI.out p.2 (by rw [← hbm]; exact List.mem_map_of_mem hp)).2) (by omega) (by rw [hbm, hdi]; exact HORD.out i HLT.out))
          have HDONE : Hid (∀ w5 : World, HCells w5 w1.heap.size la ps.length lc (tsum Tb.bytes (bs.map (·.2))) (tsum Tb.stale (bs.map (·.2))) i (ptr w.heap.size) → Tch [w1.heap.size] wx w5 →
              Lev w5 w.heap.size i ⟨w1.heap.size, la, ps.length, lc, bs⟩ (LL.getD i []) ∧ Tch [] w1 w5) := Lib.hid (fun w5 q1 q2 => by
            have hS : ∀ g ∈ [w1.heap.size], ∃ cur fr, wx.heap[g]? = some (.cells cur 123 fr) := fun g hm => by
              obtain rfl := List.mem_singleton.1 hm
              exact ⟨_, _, hh.out⟩
            have t1 : Tch [] w1 wx := HTH.out.trans HBS2.out.t
            refine ⟨⟨by rw [← hbm]; exact q1, hpv.keep q2 hS (by decide) (by decide) (by decide), hbm⟩, q2.os.trans t1.os, q2.output.trans t1.output, Nat.le_trans t1.size q2.size, fun k hk _ => ?_⟩
            rw [q2.block k (Nat.lt_of_lt_of_le hk t1.size) (by simp; omega), t1.block k hk (by simp)])
          obtain ⟨i0, hinf, hz0, hz1, hz2⟩ := info_parts Try.infoPtrH
          obtain ⟨i1, hinf1, hy0, hy1, hy2⟩ := info_parts Try.infoPtrC
          have HI0 := Lib.hid hinf
          have HI1 := Lib.hid hinf1
          have hi8 : i ≤ 100000000 := by omega
          clear hbm hpv hh hdi hlt hinf hinf1 hc1
          go_upto_region 16 with (first
            | (go_at_call 52; refine HIT.out.mono ?_; rintro e w5 ⟨rfl, q1, q2⟩
               obtain ⟨hlev5, ht5⟩ := HDONE.out w5 q1 q2
               have hct5 := HCT.out.tch ht5
               obtain ⟨⟨z0, z1, z2, z3⟩, zf⟩ := sc_cells hct5.sc
               have HCT5 := Lib.hid hct5
               have HLEV5 := Lib.hid hlev5
               have HT5 := Lib.hid (HT1.out.trans ht5)
               have HA5 := Lib.hid (own_app (ty := 105) Try.underlying105 HI0.out hz0 hz1 hz2 rfl (by decide) (by decide) #[ptr w1.heap.size] (⟨HT1.out.trans ht5, hct5.hrow⟩ : Own w w5 _ _ _ _ _) hi8 rfl (by simp [Value.oneCell']))
               clear q1 q2 hlev5 ht5 hct5 zf)
            | (at_builtin; refine wpList_append_run rfl (.tmp 54) (.tmp 56) 105 rfl (.slice HA i hc) (.slice (some ⟨w5.heap.size, 0, none⟩) 1 1) (by simp [Act.eval]) (by simp [Act.eval]) _ HA5.out ?_; rintro vv w7 ⟨g7, c7, rfl, m1, m2, m3, m4, m5⟩
               obtain ⟨s7, hct8⟩ := HCT5.out.more HLEV5.out m4 m1.row
               obtain ⟨⟨u0, u1, u2, u3⟩, uf⟩ := sc_cells s7
               have uf0 := uf 0
               have HCT8 := Lib.hid hct8
               have HT7 := Lib.hid m1.t
               clear m1 m2 m3 m4 m5 s7 hct8 uf))
          clear z0 z1 z2 z3 u0 u1 u2 u3 uf0
          have HT8 : Hid (Tch [] w (w7.setCell ⟨w.heap.size + 1 + 1, 0, none⟩ (.slice (some ⟨g7, 0, none⟩) (i + 1) c7))) := Lib.hid (HT7.out.setCell (p := ⟨w.heap.size + 1 + 1, 0, none⟩) (fun hl => absurd hl (by show ¬ (w.heap.size + 1 + 1 < w.heap.size); omega)) _)
          generalize w7.setCell ⟨w.heap.size + 1 + 1, 0, none⟩ (.slice (some ⟨g7, 0, none⟩) (i + 1) c7) = w8 at *
          obtain ⟨⟨z0, z1, z2, z3⟩, -⟩ := sc_cells HCT8.out.sc
          have tb : Tch [] w8 (w8.alloc (.cells #[.slice none 0 0, .int .i64 0] 129)) := (Tch.refl _ _).alloc _
          have hA8 := own_app (ty := 107) Try.underlying107 HI1.out hy0 hy1 hy2 rfl (by decide) (by decide) #[ptr w8.heap.size] (⟨HT8.out.trans tb, tb.own HCT8.out.crow (by simp)⟩ : Own w (w8.alloc (.cells #[.slice none 0 0, .int .i64 0] 129)) _ _ _ _ _) hi8 rfl (by simp [Value.oneCell'])
          rw [show (w8.alloc (.cells #[.slice none 0 0, .int .i64 0] 129)).heap.size = w8.heap.size + 1 by simp] at hA8
          have HA8 := Lib.hid hA8
          have HB8 : Hid ((w8.alloc (.cells #[.slice none 0 0, .int .i64 0] 129)).heap[w8.heap.size]? = some (.cells #[.slice none 0 0, .int .i64 0] 129 (0, 0))) := Lib.hid (by rw [heap_get_alloc, if_pos rfl])
          have HTB := Lib.hid tb
          clear hA8 tb
          go_wp2_with (first
            | (at_builtin; refine wpList_append_run rfl (.tmp 65) (.tmp 68) 107 rfl (.slice CA i cc) (.slice (some ⟨w8.heap.size + 1, 0, none⟩) 1 1) (by simp [Act.eval]) (by simp [Act.eval]) _ HA8.out ?_; rintro vv w9 ⟨g9, c9, rfl, m1, m2, m3, m4, m5⟩
               obtain ⟨s9, hct9⟩ := (HCT8.out.tch HTB.out).moreC HB8.out m4 m1.row
               obtain ⟨⟨u0, u1, u2, u3⟩, uf⟩ := sc_cells s9
               have uf2 := uf 2
               have HCT9 := Lib.hid hct9
               have HT9 := Lib.hid m1.t
               clear m1 m2 m3 m4 m5 s9 hct9 uf))
          go_roundg (n - (i + 1))
          case rel => exact ⟨i + 1, by have := HLT.out; omega, rfl, by go_num, _, _, _, _, _, _, HCT9.out, HT9.out.setCell (p := ⟨w.heap.size + 1 + 1, 2, none⟩) (fun hl => absurd hl (by show ¬ (w.heap.size + 1 + 1 < w.heap.size); omega)) _⟩
          case measure => have := HLT.out; omega
    · obtain rfl : i = n := by omega
      have HF : Hid (Made (w1.alloc (.cells #[ptr (w.heap.size + 1 + 1), .slice none 0 0] 102)) w1.heap.size #[.int .i64 i, .int .i64 lt, .int .i64 tt, .int .i64 zt, .int .i64 bl, .int .i64 bt, .int .i64 mt, .int .u64 di] i LL) := Lib.hid ⟨_, _, _, _, _, _, _, _, _, _, by rw [heap_get_alloc, if_pos rfl], HCT.out.tch ((Tch.refl _ _).alloc _)⟩
      clear hlt hi
      go_wp2_with fail
      go_ret
      exact ⟨_, rfl, HF.out, HT1.out.alloc _⟩

end Go.Proofs.Ytdofgamahjmohaa
