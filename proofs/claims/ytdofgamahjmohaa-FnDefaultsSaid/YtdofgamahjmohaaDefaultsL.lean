/- FnDefaults returns true for all tables: with the options that are published, levels of no more than seven tables, one for each level, have the sizes and the base level that they should have. No condition. -/
import Derived.Test.YtdofgamahjmohaaLwL
import Derived.Lib.SmallJoins
namespace Go.Proofs.Ytdofgamahjmohaa.fnDefaults
open Go.ChangeShapes Go.WideShapes Go.ChangeAt Go.RowKit Go.Deep Go.Joins
set_option maxRecDepth 100000

theorem own : ownKnob Try.prog.godebug = none := by kernel_rfl

def dOp : Op := ⟨7, 10, 2, 5, 10485760, 2097152, 67108864, 0⟩
abbrev dA : Array Value := #[.int .i64 7, .int .i64 10, .int .i64 2, .int .i64 5, .int .i64 10485760, .int .i64 2097152, .int .i64 67108864, .int .u64 0]

theorem pdef_any (w : World) : Calls Try.prog 37 #[] w fun e w' => e = .returned (.agg dA) ∧ Tch [] w w' := by
  have HT := Lib.hid ((Tch.refl [] w).alloc (.cells dA 69))
  go_enter Try.func37, Try.ntmps37
  go_wp2
  (try simp only [Exit.inBlock, Exit.then])
  refine bodyPost_ret (results_cell_row rfl _ _ w.heap.size 69 dA (0, 0) _ rfl (alloc_at rfl) Try.underlying69 rfl (by kernel_rfl)) rfl ?_
  exact ⟨rfl, HT.out⟩

theorem def_last (w X : World) (t0 : Tch [] w X) (h0 : X.heap[w.heap.size]? = some (.cells #[.int .i64 0, .int .i64 0, .int .i64 0, .int .i64 0, .int .i64 0, .int .i64 0, .int .i64 0, .int .u64 0] 32 (0, 0))) :
    let w' := ((((((((X.setCell ⟨w.heap.size, 0, none⟩ (.int .i64 7)).setCell ⟨w.heap.size, 1, none⟩ (.int .i64 10)).setCell ⟨w.heap.size, 2, none⟩ (.int .i64 2)).setCell ⟨w.heap.size, 3, none⟩ (.int .i64 5)).setCell ⟨w.heap.size, 4, none⟩ (.int .i64 10485760)).setCell ⟨w.heap.size, 5, none⟩ (.int .i64 2097152)).setCell ⟨w.heap.size, 6, none⟩ (.int .i64 67108864)).setCell ⟨w.heap.size, 7, none⟩ (.int .u64 0))
    w'.heap[w.heap.size]? = some (.cells dA 32 (0, 0)) ∧ Tch [] w w' := by
  intro w'
  have h1 := heap_setCell_same _ w.heap.size 0 _ _ (.int .i64 7) h0
  have h2 := heap_setCell_same _ w.heap.size 1 _ _ (.int .i64 10) h1
  have h3 := heap_setCell_same _ w.heap.size 2 _ _ (.int .i64 2) h2
  have h4 := heap_setCell_same _ w.heap.size 3 _ _ (.int .i64 5) h3
  have h5 := heap_setCell_same _ w.heap.size 4 _ _ (.int .i64 10485760) h4
  have h6 := heap_setCell_same _ w.heap.size 5 _ _ (.int .i64 2097152) h5
  have h7 := heap_setCell_same _ w.heap.size 6 _ _ (.int .i64 67108864) h6
  have h8 := heap_setCell_same _ w.heap.size 7 _ _ (.int .u64 0) h7
  exact ⟨h8, ((((((((t0.setCell (p := ⟨w.heap.size, 0, none⟩) (fun h => absurd h (Nat.lt_irrefl _)) _).setCell (p := ⟨w.heap.size, 1, none⟩) (fun h => absurd h (Nat.lt_irrefl _)) _).setCell (p := ⟨w.heap.size, 2, none⟩) (fun h => absurd h (Nat.lt_irrefl _)) _).setCell (p := ⟨w.heap.size, 3, none⟩) (fun h => absurd h (Nat.lt_irrefl _)) _).setCell (p := ⟨w.heap.size, 4, none⟩) (fun h => absurd h (Nat.lt_irrefl _)) _).setCell (p := ⟨w.heap.size, 5, none⟩) (fun h => absurd h (Nat.lt_irrefl _)) _).setCell (p := ⟨w.heap.size, 6, none⟩) (fun h => absurd h (Nat.lt_irrefl _)) _).setCell (p := ⟨w.heap.size, 7, none⟩) (fun h => absurd h (Nat.lt_irrefl _)) _)⟩

theorem def_any (w : World) : Calls Try.prog 17 #[] w fun e w' => e = .returned (.agg dA) ∧ Tch [] w w' := by
  have HP := Lib.hid (fun w' => pdef_any w')
  have HX := Lib.hid (fun (w1 : World) (t : Tch [] (w.alloc (.cells #[.int .i64 0, .int .i64 0, .int .i64 0, .int .i64 0, .int .i64 0, .int .i64 0, .int .i64 0, .int .u64 0] 32)) w1) => (⟨((Tch.refl _ _).alloc _).trans (t.alloc _), (t.alloc (.cells dA 69)).obj (alloc_at rfl) (by simp)⟩ : Tch [] w (w1.alloc (.cells dA 69)) ∧ (w1.alloc (.cells dA 69)).heap[w.heap.size]? = some (.cells #[.int .i64 0, .int .i64 0, .int .i64 0, .int .i64 0, .int .i64 0, .int .i64 0, .int .i64 0, .int .u64 0] 32 (0, 0))))
  go_enter Try.func17, Try.ntmps17
  go_wp2_with fail
  refine (HP.out _).mono ?_
  rintro e w1 ⟨rfl, t⟩
  have HX2 := Lib.hid (HX.out w1 t)
  have cc : ∀ i v, (#[.int .i64 0, .int .i64 0, .int .i64 0, .int .i64 0, .int .i64 0, .int .i64 0, .int .i64 0, .int .u64 0] : Array Value)[i]? = some v → (w1.alloc (.cells dA 69)).cell? ⟨w.heap.size, i, none⟩ = some v := fun i v hv => by rw [cell_of_row _ _ _ _ 32 (0, 0) HX2.out.2]; exact hv
  have ff : ∀ i, (w1.alloc (.cells dA 69)).frozen? ⟨w.heap.size, i, none⟩ = false := fun i => by
    have := HX2.out.2
    simp only [World.frozen?, this]
    first | rfl | simp
  have c0 := cc 0 _ rfl
  have f0 := ff 0
  have c1 := cc 1 _ rfl
  have f1 := ff 1
  have c2 := cc 2 _ rfl
  have f2 := ff 2
  have c3 := cc 3 _ rfl
  have f3 := ff 3
  have c4 := cc 4 _ rfl
  have f4 := ff 4
  have c5 := cc 5 _ rfl
  have f5 := ff 5
  have c6 := cc 6 _ rfl
  have f6 := ff 6
  have c7 := cc 7 _ rfl
  have f7 := ff 7
  have HDL := Lib.hid (def_last w _ HX2.out.1 HX2.out.2)
  clear t cc ff
  go_wp2_with fail
  (try simp only [Exit.inBlock, Exit.then])
  refine bodyPost_ret (results_cell_row rfl _ _ w.heap.size 32 dA (0, 0) _ rfl HDL.out.1 Try.underlying32 rfl (by kernel_rfl)) rfl ?_
  exact ⟨rfl, HDL.out.2⟩

/-- A row of n values. -/
def arrV (n : Nat) (f : Nat → Value) : Array Value := ((List.range n).map f).toArray
theorem arrV_at {n : Nat} {f : Nat → Value} {i : Nat} (h : i < n) : (arrV n f)[i]? = some (f i) := by
  unfold arrV
  simp [h]
theorem arrV_set {n : Nat} {f : Nat → Value} {i : Nat} {v : Value} : (arrV n f).setIfInBounds i v = arrV n (fun j => if j = i then v else f j) := by
  apply Array.ext'
  apply List.ext_getElem?
  intro j
  unfold arrV
  simp only [List.setIfInBounds_toArray, List.getElem?_set, List.length_map, List.length_range, List.getElem?_map]
  by_cases e : i = j
  · subst e
    by_cases hi : i < n
    · simp [hi]
    · simp [hi]
  · have e2 : ¬ j = i := fun h => e h.symm
    by_cases hj : j < n
    · simp [e, e2, hj]
    · simp [e, hj]

/-- A table's cells at a block of the call's own. -/
def TbBox (w0 w : World) (g : Nat) (t : Tb) : Prop := ∃ a1 c1 a2 c2, w.heap[g]? = some (.cells (tbA t.num t.t1 a1 t.k1.key.length c1 t.k1.ver t.t2 a2 t.k2.key.length c2 t.k2.ver t.bytes t.ver t.stale t.age) 44 (0, 0)) ∧ By w0 t.k1.key a1 c1 ∧ By w0 t.k2.key a2 c2
theorem TbBox.tab {w0 w : World} {g : Nat} {t : Tb} (h : TbBox w0 w g t) (tt : Tch [] w0 w) (k : TbOk t) : TabsAt w [t] (some ⟨g, 0, none⟩) 1 := by
  obtain ⟨a1, c1, a2, c2, h1, h2, h3⟩ := h
  refine ⟨Nat.le_refl _, by unfold maxLen; simp, fun e => by simp at e, fun ad e j hj => ?_, fun x hx => by rw [List.mem_singleton.1 hx]; exact k⟩
  obtain rfl := Option.some.inj e
  have hj0 : j = 0 := by simpa using hj
  subst hj0
  have e1 : (⟨g, 0, none⟩ : Addr).add (0 * 11) = ⟨g, 0, none⟩ := by unfold Addr.add; simp
  rw [e1]
  obtain ⟨⟨x0, x1, x2, x3, x4, x5, x6⟩, x7, x8, x9, x10⟩ := tb_cells h1
  have ea : ∀ i, i ≠ 0 → (⟨g, 0, none⟩ : Addr).add i = ⟨g, i, none⟩ := fun i hi => by unfold Addr.add; simp [hi]
  exact ⟨a1, c1, a2, c2, lt_of_obj h1, x0, by rw [ea 1 (by decide)]; exact x1, by rw [ea 2 (by decide)]; exact x2, by rw [ea 3 (by decide)]; exact x3, by rw [ea 4 (by decide)]; exact x4, by rw [ea 5 (by decide)]; exact x5, by rw [ea 6 (by decide)]; exact x6, by rw [ea 7 (by decide)]; exact x7, by rw [ea 8 (by decide)]; exact x8, by rw [ea 9 (by decide)]; exact x9, by rw [ea 10 (by decide)]; exact x10, h2.tch tt, h3.tch tt⟩

/-- The levels in the making. -/
structure DL (w0 w : World) (go gl i : Nat) (ts : List Tb) (vs : Nat → Value) (gs : Nat → Nat) : Prop where
  t : Tch [] w0 w
  lo : w0.heap.size ≤ gl
  op : w.heap[go]? = some (.cells dA 32 (0, 0))
  row : w.heap[gl]? = some (.cells (arrV 7 vs) 39 (0, 0))
  old : ∀ j, i ≤ j → vs j = .slice none 0 0
  new : ∀ j, j < i → vs j = .slice (some ⟨gs j, 0, none⟩) 1 1 ∧ TbBox w0 w (gs j) (ts.getD j default)

def lv (ts : List Tb) : List (List Tb) := ts.map (fun t => [t]) ++ List.replicate (7 - ts.length) []
theorem lv_len {ts : List Tb} (h : ts.length ≤ 7) : (lv ts).length = 7 := by unfold lv; simp; omega
theorem lv_at {ts : List Tb} (j : Nat) : (lv ts).getD j [] = if j < ts.length then [ts.getD j default] else [] := by
  unfold lv
  by_cases h : j < ts.length
  · rw [if_pos h]
    simp [List.getD, List.getElem?_append_left (show j < (ts.map (fun t => [t])).length by simpa using h), List.getElem?_eq_getElem h]
  · rw [if_neg h]
    simp only [List.getD, List.getElem?_append_right (show (ts.map (fun t => [t])).length ≤ j by simpa using h)]
    rw [List.getElem?_replicate]
    split <;> rfl

theorem DL.lvAt {w0 w : World} {go gl : Nat} {ts : List Tb} {vs : Nat → Value} {gs : Nat → Nat} (h : DL w0 w go gl ts.length ts vs gs) (h7 : ts.length ≤ 7) (hok : ∀ t ∈ ts, TbOk t) : LvAt w (lv ts) (some ⟨gl, 0, none⟩) 7 := by
  refine ⟨by rw [lv_len h7]; exact Nat.le_refl _, by rw [lv_len h7]; unfold maxLen; omega, fun e => by simp at e, fun ad e i hi => ?_⟩
  obtain rfl := Option.some.inj e
  rw [lv_len h7] at hi
  have e1 : (⟨gl, 0, none⟩ : Addr).add i = ⟨gl, i, none⟩ := by unfold Addr.add; split <;> simp_all
  refine ⟨lt_of_obj h.row, ?_⟩
  rw [e1, cell_of_row w _ _ _ 39 (0, 0) h.row, arrV_at hi, lv_at]
  by_cases hj : i < ts.length
  · rw [if_pos hj]
    obtain ⟨h1, h2⟩ := h.new i hj
    exact ⟨_, 1, by rw [h1]; rfl, h2.tab h.t (hok _ (by simp [List.getD, List.getElem?_eq_getElem hj]))⟩
  · rw [if_neg hj]
    exact ⟨none, 0, by rw [h.old i (by omega)]; rfl, Nat.le_refl _, Nat.zero_le _, fun _ => ⟨rfl, rfl⟩, fun ad e => by simp at e, by simp⟩

theorem DL.step {w0 wr W2 : World} {go gl i g : Nat} {ts : List Tb} {vs : Nat → Value} {gs : Nat → Nat} (h : DL w0 wr go gl i ts vs gs) (t2 : Tch [] wr W2) (hb : TbBox w0 W2 g (ts.getD i default)) :
    DL w0 (W2.setCell ⟨gl, i, none⟩ (.slice (some ⟨g, 0, none⟩) 1 1)) go gl (i + 1) ts (fun j => if j = i then .slice (some ⟨g, 0, none⟩) 1 1 else vs j) (fun j => if j = i then g else gs j) := by
  have hr := t2.obj h.row (by simp)
  have ho := t2.obj h.op (by simp)
  have ts' : Tch [gl] W2 (W2.setCell ⟨gl, i, none⟩ (.slice (some ⟨g, 0, none⟩) 1 1)) := (Tch.refl _ _).setCell (p := ⟨gl, i, none⟩) (fun _ => by simp) _
  have ne : ∀ {b : Nat} {c : Array Value} {e : TypeId}, W2.heap[b]? = some (.cells c e (0, 0)) → e ≠ 39 → b ∉ [gl] := fun hb he hm => cells_ne hb hr he (List.mem_singleton.1 hm)
  have keep : ∀ {b : Nat} {t : Tb}, TbBox w0 W2 b t → TbBox w0 (W2.setCell ⟨gl, i, none⟩ (.slice (some ⟨g, 0, none⟩) 1 1)) b t := fun hb => by
    obtain ⟨a1, c1, a2, c2, h1, h2, h3⟩ := hb
    exact ⟨a1, c1, a2, c2, ts'.obj h1 (ne h1 (by decide)), h2, h3⟩
  refine ⟨(h.t.trans t2).then ts' (fun k hk hm => absurd hk (by rw [List.mem_singleton.1 hm]; have := h.lo; omega)), h.lo, ts'.obj ho (ne ho (by decide)), by rw [heap_setCell_same W2 gl i _ _ _ hr, arrV_set], fun j hj => ?_, fun j hj => ?_⟩
  · have e : ¬ j = i := by omega
    simp only [if_neg e]
    exact h.old j (by omega)
  · by_cases e : j = i
    · subst e
      simp only [if_true]
      exact ⟨trivial, keep hb⟩
    · simp only [if_neg e]
      obtain ⟨h1, h2⟩ := h.new j (by omega)
      refine ⟨h1, keep ?_⟩
      obtain ⟨a1, c1, a2, c2, q1, q2, q3⟩ := h2
      exact ⟨a1, c1, a2, c2, t2.obj q1 (by simp), q2, q3⟩

theorem Try.infoTabs : (Try.prog.info? 39).map (fun i => (i.zero, i.size, i.bytes)) = some (some (.slice none 0 0), 1, 24) := by kernel_rfl
theorem arrV_made (v : Value) (n : Nat) : madeCells #[v] n = arrV n (fun _ => v) := by
  apply Array.ext'
  rw [toList_madeCells_one]
  unfold arrV
  apply List.ext_getElem?
  intro j
  by_cases hj : j < n
  · simp [hj]
  · simp [hj]

set_option maxHeartbeats 4000000 in
theorem walk (ts : List Tb) (ta : Option Addr) (c : Nat) (w : World) (h : TabsAt w ts ta c) :
    Calls Try.prog 5 #[.slice ta ts.length c] w fun e w' => e = .returned (.bool true) ∧ Tch [] w w' := by
  have HF := Lib.hid (fits1_any ts ta c w h)
  have HD := Lib.hid (fun w' => def_any w')
  have HTA := Lib.hid h
  have hmk := fun (w : World) => run_make_row' (P := Try.prog) 30 39 (.slice none 0 0) 24 Try.underlying30 Try.infoTabs rfl .i64 .i64 7 (by omega) (by omega) w
  have e7 : ((7 : Nat) : Int) = 7 := rfl
  rw [e7] at hmk
  simp only [arrV_made] at hmk
  clear h e7
  go_enter Try.func5, Try.ntmps5
  go_wp2_with fail
  refine HF.out.mono ?_
  rintro e w1 ⟨b1, rfl, k, t⟩
  have HK1 := Lib.hid k
  have HT1 := Lib.hid t
  clear k t
  cases b1 with
  | false =>
    go_wp2_with fail
    go_ret
    exact ⟨rfl, HT1.out⟩
  | true =>
  have HSH := Lib.hid (HK1.out rfl).2
  go_wp2_with fail
  refine (HD.out _).mono ?_
  rintro e w2 ⟨rfl, t⟩
  have HT2 := Lib.hid (HT1.out.trans t)
  clear t
  by_cases hbig : (7 : Int) < ts.length
  · have e1 : decide ((7 : Int) < ts.length) = true := by simpa using hbig
    go_wp2_with fail
    go_ret
    exact ⟨rfl, (HT2.out.alloc _).alloc _⟩
  have e1 : decide ((7 : Int) < ts.length) = false := by simpa using hbig
  have h7 : ts.length ≤ 7 := by omega
  have hD0 : DL w ((w2.alloc (.cells dA 32)).alloc (.cells (arrV 7 (fun _ => .slice none 0 0)) 39)) w2.heap.size (w2.heap.size + 1) 0 ts (fun _ => .slice none 0 0) (fun _ => 0) :=
    ⟨(HT2.out.alloc _).alloc _, by have := HT2.out.size; omega, (box2 w2 (.cells dA 32) (.cells (arrV 7 (fun _ => .slice none 0 0)) 39)).1, (box2 w2 (.cells dA 32) (.cells (arrV 7 (fun _ => .slice none 0 0)) 39)).2, fun _ _ => rfl, fun j hj => absurd hj (Nat.not_lt_zero j)⟩
  have HD0 := Lib.hid hD0
  have H7 := Lib.hid h7
  have h7i : (ts.length : Int) ≤ 7 := by omega
  clear hD0 hbig h7
  go_wp2_with fail
  clear hmk
  go_loopg [27] ts.length (fun nn s27 wr => ∃ i : Nat, i ≤ ts.length ∧ nn = ts.length - i ∧ s27 = .int .i64 i ∧ Hid (∃ vs gs, DL w wr w2.heap.size (w2.heap.size + 1) i ts vs gs))
  case atStart => exact ⟨0, Nat.zero_le _, rfl, rfl, _, _, HD0.out⟩
  case round =>
    obtain ⟨i, hi, rfl, rfl, HR⟩ := hrel
    rename World => wr
    obtain ⟨vs, gs, hd⟩ := HR.out
    by_cases hlt : i < ts.length
    · have hlt2 : (i : Int) < ts.length := by omega
      have hlt7 : (i : Int) < 7 := by omega
      cases ta with
      | none => have h0 := (HTA.out.nil rfl).2; rw [h0] at hlt; exact absurd hlt (by simp)
      | some a =>
      obtain ⟨a1, d1, a2, d2, hc0⟩ := HTA.out.at' a rfl i hlt
      have hcc := hc0.tch hd.t
      have HLT := Lib.hid hlt
      have x : wr.cell? ⟨w2.heap.size + 1, i, none⟩ = some (vs i) := by rw [cell_of_row wr _ _ _ 39 (0, 0) hd.row, arrV_at (by omega)]
      have fz : wr.frozen? ⟨w2.heap.size + 1, i, none⟩ = false := by
        have := hd.row
        simp only [World.frozen?, this]
        first | rfl | simp
      have hlb : w2.heap.size + 1 < wr.heap.size := lt_of_obj hd.row
      have HST := Lib.hid (fun (W2 : World) (g : Nat) (t2 : Tch [] wr W2) (hb : TbBox w W2 g (ts.getD i default)) => hd.step t2 hb)
      have HB1 := Lib.hid hc0.by1
      have HB2 := Lib.hid hc0.by2
      clear hd hlt
      generalize hp : ts.getD i default = p at *
      obtain ⟨num, t1, ⟨l1, v1⟩, t2, ⟨l2, v2⟩, bytes, ver, stale, age⟩ := p
      obtain ⟨⟨x0, x1, x2, x3, x4, x5, x6⟩, x7, x8, x9, x10⟩ := hcc.all
      have tw : Tch [] wr ((wr.alloc (.cells (tbA num t1 a1 l1.length d1 v1 t2 a2 l2.length d2 v2 bytes ver stale age) 44)).alloc (.cells (tbA num t1 a1 l1.length d1 v1 t2 a2 l2.length d2 v2 bytes ver stale age) 44)) := ((Tch.refl _ _).alloc _).alloc _
      have y := (tw.cell (p := ⟨w2.heap.size + 1, i, none⟩) hlb (by simp)).trans x
      have fy := (tw.frozen (p := ⟨w2.heap.size + 1, i, none⟩) hlb (by simp)).trans fz
      have HS2 := Lib.hid (HST.out _ (wr.heap.size + 1) tw ⟨a1, d1, a2, d2, (box2 wr (.cells (tbA num t1 a1 l1.length d1 v1 t2 a2 l2.length d2 v2 bytes ver stale age) 44) (.cells (tbA num t1 a1 l1.length d1 v1 t2 a2 l2.length d2 v2 bytes ver stale age) 44)).2, HB1.out, HB2.out⟩)
      clear hc0 hcc hp tw HST x fz
      go_wp2_with fail
      go_roundg (ts.length - (i + 1))
      case rel => exact ⟨i + 1, by have := HLT.out; omega, rfl, by go_num, _, _, HS2.out⟩
      case measure => have := HLT.out; omega
    · obtain rfl : i = ts.length := by omega
      have hlv := hd.lvAt H7.out HTA.out.ok
      have HLV := Lib.hid hlv
      have HTW := Lib.hid hd.t
      have HOP := Lib.hid hd.op
      have ll := lv_len H7.out
      have HFN := Lib.hid (show ∀ x ∈ lv ts, ∀ t ∈ x, t.short by
        intro x hx t ht
        unfold lv at hx
        rcases List.mem_append.1 hx with hx | hx
        · obtain ⟨y, hy, rfl⟩ := List.mem_map.1 hx
          rw [List.mem_singleton.1 ht]
          exact HSH.out y hy
        · rw [(List.mem_replicate.1 hx).2] at ht
          simp at ht)
      have HBX := Lib.hid (fun (w' : World) (t : Tch [] wr w') => (show _ ∧ _ ∧ _ ∧ _ ∧ _ ∧ _ ∧ _ ∧ _ from
        have one : ∀ i v, dA[i]? = some v → w'.cell? ⟨w2.heap.size, i, none⟩ = some v := fun i v hv => by rw [cell_of_row w' _ _ _ 32 (0, 0) (t.obj HOP.out (by simp))]; exact hv
        ⟨one 0 _ rfl, one 1 _ rfl, one 2 _ rfl, one 3 _ rfl, one 4 _ rfl, one 5 _ rfl, one 6 _ rfl, one 7 _ rfl⟩))
      have HV := Lib.hid (fun w' (t : Tch [] wr w') => (show Calls Try.prog 13 #[.slice (some ⟨w2.heap.size + 1, 0, none⟩) 7 7, .agg dA] w' (Guard w' (Valid (lv ts) dOp)) by
        have := valid_any (lv ts) _ 7 dOp w' (HLV.out.tch t) HFN.out
        rw [ll] at this
        exact this))
      have HT := Lib.hid (fun w' (t : Tch [] wr w') hv => (show Calls Try.prog 14 #[.slice (some ⟨w2.heap.size + 1, 0, none⟩) 7 7, .agg dA] w' (fun e w' => ∃ (b : Nat) (a1 a2 : Option Addr) (c1 c2 : Nat), e = .returned (.tuple #[.int .i64 b, .slice a1 7 c1, .slice a2 7 c2]) ∧
          IAt w' ((List.range 7).map (tgs (lv ts) dOp)) a1 ∧ IAt w' ((List.range 7).map (fsz dOp.tt dOp.bt dOp.mt b)) a2 ∧ Based (lv ts) dOp b ∧ Tch [] _ w') by
        have := targets_any (lv ts) _ 7 dOp w' (HLV.out.tch t) HFN.out hv
        rw [ll] at this
        exact this))
      have HA := Lib.hid (fun (b : Nat) (a1 a2 : Option Addr) (c1 c2 : Nat) w' (t : Tch [] wr w') hv (hb : Based (lv ts) dOp b) (h1 : IAt w' ((List.range 7).map (tgs (lv ts) dOp)) a1) (h2 : IAt w' ((List.range 7).map (fsz dOp.tt dOp.bt dOp.mt b)) a2) => (show Calls Try.prog 15 #[.slice (some ⟨w2.heap.size + 1, 0, none⟩) 7 7, .agg dA, .int .i64 b, .slice a1 7 c1, .slice a2 7 c2] w' (fun e w2 => e = .returned (.bool true) ∧ Tch [] w' w2) by
        have := areTargets_any (lv ts) _ 7 dOp b a1 a2 c1 c2 w' (HLV.out.tch t) hv hb (by rw [ll]; exact h1) (by rw [ll]; exact h2)
        rw [ll] at this
        exact this))
      obtain ⟨y0, y1, y2, y3, y4, y5, y6, y7⟩ := HBX.out _ (Tch.refl _ _)
      clear hlt hlv ll hd
      go_wp2_with fail
      refine (HV.out _ (Tch.refl _ _)).mono ?_
      rintro e w3 ⟨b2, rfl, k, t⟩
      have HK2 := Lib.hid k
      have HT3 := Lib.hid t
      clear k t y0 y1 y2 y3 y4 y5 y6 y7
      cases b2 with
      | false =>
        go_wp2_with fail
        go_ret
        exact ⟨rfl, HTW.out.trans HT3.out⟩
      | true =>
      have HVA := Lib.hid (HK2.out rfl)
      obtain ⟨y0, y1, y2, y3, y4, y5, y6, y7⟩ := HBX.out _ HT3.out
      go_wp2_with (first
        | (go_at_call 14; refine (HT.out _ HT3.out HVA.out).mono ?_; rintro e w4 ⟨b, a1, a2, c1, c2, rfl, q1, q2, q3, t⟩; have HQ1 := Lib.hid q1; have HQ2 := Lib.hid q2; have HQ3 := Lib.hid q3; have HT4 := Lib.hid (HT3.out.trans t); clear q1 q2 q3 t y0 y1 y2 y3 y4 y5 y6 y7; obtain ⟨y0, y1, y2, y3, y4, y5, y6, y7⟩ := HBX.out _ HT4.out)
        | (go_at_call 15; refine (HA.out b a1 a2 c1 c2 _ HT4.out HVA.out HQ3.out HQ1.out HQ2.out).mono ?_; rintro e w5 ⟨rfl, t⟩; have HT5 := Lib.hid (HT4.out.trans t); clear t))
      go_ret
      exact ⟨rfl, HTW.out.trans HT5.out⟩

theorem tsize : Try.prog.types.size = 207 := by kernel_rfl

/-! ### The row's step -/
theorem lifted (os : Os) (started : os.Started) (H : Type) (enc : TypeId × Value → H) :
    ReturnsInHanded {} Try.checked os 5 .any (Rows.fnDefaultsSpec.pre6 enc Try.prog Try.f5 Rows.fnDefaultsRow.domain false) (Rows.fnDefaultsSpec.post enc Try.prog Try.f5 false true false false) := by
  refine returnsInHanded_of_change (C := Try.checked) own started (by kernel_rfl) Try.func5
    (ChangeSpec.witness6 (enc := enc) (C := Try.checked) false ⟨#[], #[.slice none 0 0], []⟩ 8 (by kernel_rfl) (by kernel_rfl) (by kernel_rfl) (by kernel_rfl)) ?_
  intro W base args ds gs before hval0 hW hcnd _
  have hval : ∀ (j : Nat) t v, Try.f5.params[j]? = some t → args[j]? = some v → Value.okWide Try.prog W .any base t v := hval0
  have hW' := hW
  obtain ⟨p, q, hA0, hV, rfl, hfz, hnd⟩ := hW
  have hA : DataW.TrodAll enc Try.prog W 0 (fun _ => true) true Try.f5.params.toList args.toList ds p := hA0
  have hA1 := hA
  rw [Try.params5] at hA1 hval
  obtain ⟨v0, vs0, d0, ds0, p0, q0, hargs, rfl, rfl, h0, r0⟩ := trodAll_cons hA1
  obtain ⟨rfl, rfl, rfl⟩ := trodAll_nil r0
  obtain rfl : args = #[v0] := by cases args; simp_all
  obtain ⟨rfl, rfl⟩ := trodVars_none hV
  obtain ⟨fuel0, hf0⟩ := h0
  obtain ⟨a0, l0, c0, rfl⟩ := okWide_slice Try.underlying39 (hval 0 39 v0 rfl rfl)
  obtain ⟨la, ts, cz, e, hu⟩ := open_tabs hf0
  simp only [Value.cells, List.cons.injEq, and_true, Value.slice.injEq] at e
  obtain ⟨rfl, rfl, rfl⟩ := e
  refine (walk ts a0 c0 W hu).mono fun e W' ⟨he, hg⟩ => ?_
  subst he
  rw [List.append_nil] at hW'
  exact ⟨_, rfl, post_law rfl 4 Try.underlying4 rfl rfl Try.kids Try.full (by
    rw [Try.params5]
    intro t ht
    show t < Try.prog.types.size
    rw [tsize]
    have ht : t ∈ [39] := ht
    obtain rfl := List.mem_singleton.1 ht
    exact Nat.lt_of_sub_pos (by decide)) hW' hA hg⟩

theorem over : Rows.fnDefaultsRow.holds Try.pinned (OpenSpec.ofChange Rows.fnDefaultsSpec) :=
  OpenClaim.holds_of_wide 5 Try.f5 rfl rfl rfl rfl rfl rfl rfl ⟨rfl, rfl, rfl, rfl, rfl⟩ rfl rfl rfl rfl rfl (by kernel_rfl) Try.func5 (by kernel_rfl)
    (of_decide_eq_true (by kernel_rfl)) (by unfold Func.isWrapper; first | (rw [if_pos (by decide +kernel)]; kernel_rfl) | (rw [if_neg (by decide +kernel)]; exact ⟨rfl, rfl⟩))
    (fun os started H enc _ => lifted os started H enc)

/-- The statement. -/
theorem proved : Rows.FnDefaultsSaid :=
  over
#print axioms proved
end Go.Proofs.Ytdofgamahjmohaa.fnDefaults
