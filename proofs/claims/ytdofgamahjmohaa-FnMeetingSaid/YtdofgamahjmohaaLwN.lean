/- overlappingTables. -/
import Derived.Test.YtdofgamahjmohaaLwL
namespace Go.Proofs.Ytdofgamahjmohaa
open Go.Shelf Go.RowKit Go.Lib Go.Sort Go.Deep
set_option maxRecDepth 100000

theorem count_first {p : Nat → Bool} : ∀ n f, f ≤ n → (∀ i, i < f → p i = false) → (∀ i, f ≤ i → i < n → p i = true) → (List.range n).countP (fun i => !p i) = f := by
  intro n
  induction n with
  | zero => intro f h _ _; simp; omega
  | succ n ih =>
    intro f hf h1 h2
    rw [List.range_succ, List.countP_append]
    by_cases e : f = n + 1
    · rw [ih n (Nat.le_refl _) (fun i hi => h1 i (by omega)) (fun i h3 h4 => by omega)]
      have := h1 n (by omega)
      simp [this, e]
    · rw [ih f (by omega) h1 (fun i h3 h4 => h2 i h3 (by omega))]
      have := h2 n (by omega) (by omega)
      simp [this]

theorem ord_k21 {ts : List Tb} (h : ∀ i, i < ts.length → OrdAt false ts i) {a b : Nat} (hab : a < b) (hb : b < ts.length) : kcmp (ts.getD a default).k2 (ts.getD b default).k1 < 0 := by
  have h1 := (h (a + 1) (by omega)).2 (by omega)
  simp only [Bool.false_eq_true, if_false, Nat.add_sub_cancel] at h1
  have h3 : kcmp (ts.getD a default).k2 (ts.getD (a + 1) default).k1 < 0 := by unfold kcmp; rw [if_neg (by omega)]; exact h1
  by_cases e : b = a + 1
  · rw [e]; exact h3
  · have h2 := ord_all h (a + 1) b (by omega) hb
    simp only [Bool.false_eq_true, if_false] at h2
    exact kcmp_lt h3 h2
theorem ord_k12 {ts : List Tb} (h : ∀ i, i < ts.length → OrdAt false ts i) {b : Nat} (hb : b < ts.length) : kcmp (ts.getD b default).k1 (ts.getD b default).k2 ≤ 0 := by
  have h0 := (h b hb).1
  unfold isR at h0
  simp only [Bool.and_eq_true, decide_eq_true_eq] at h0
  exact h0.2

/-- From which table on, and ahead of which one, the tables of a level meet a range. -/
def mFrom (ts : List Tb) (L : Kv) : Nat := (List.range ts.length).countP (fun i => !decide (kcmp L (ts.getD i default).k2 ≤ 0))
def mTo (ts : List Tb) (R : Kv) : Nat := (List.range ts.length).countP (fun i => !decide (kcmp R (ts.getD i default).k1 < 0))

theorem mono1 {ts : List Tb} (h : ∀ i, i < ts.length → OrdAt false ts i) (L : Kv) : ∀ a b, a ≤ b → b < ts.length → decide (kcmp L (ts.getD a default).k2 ≤ 0) = true → decide (kcmp L (ts.getD b default).k2 ≤ 0) = true := by
  intro a b hab hb ha
  simp only [decide_eq_true_eq] at ha ⊢
  by_cases e : a = b
  · rw [← e]; exact ha
  · have h1 := ord_k21 h (show a < b by omega) hb
    have h2 := ord_k12 h hb
    exact kcmp_le ha (kcmp_le (Int.le_of_lt h1) h2)
theorem mono2 {ts : List Tb} (h : ∀ i, i < ts.length → OrdAt false ts i) (R : Kv) : ∀ a b, a ≤ b → b < ts.length → decide (kcmp R (ts.getD a default).k1 < 0) = true → decide (kcmp R (ts.getD b default).k1 < 0) = true := by
  intro a b hab hb ha
  simp only [decide_eq_true_eq] at ha ⊢
  by_cases e : a = b
  · rw [← e]; exact ha
  · have h1 := ord_all h a b (by omega) hb
    simp only [Bool.false_eq_true, if_false] at h1
    exact kcmp_lt ha h1

theorem HCells.tch {w w' : World} {h : Nat} {A : Option Addr} {n c : Nat} {tot stl lvl : Int} {op : Value} (k : HCells w h A n c tot stl lvl op) (t : Tch [] w w') : HCells w' h A n c tot stl lvl op := ⟨t.obj k.out (by simp)⟩

/-- The closures. -/
theorem over1_any (bk bs h blk n c i gi gL : Nat) (t : Tb) (L : Kv) (tot stl lvl : Int) (op : Value) (w : World) (k0 : w.cell? ⟨bk, 0, none⟩ = some (keyV gL L.key.length (L.key.length + 8))) (hb : w.cell? ⟨bs, 0, none⟩ = some (ptr h)) (hh : HCells w h (some ⟨blk, 0, none⟩) n c tot stl lvl op) (hi : i < n)
    (ci : w.cell? ⟨blk, i, none⟩ = some (ptr gi)) (bi : PtBox w gi t) (kt : t.good) (kL : KeyAt w L gL (L.key.length + 8)) (lL : L.key.length ≤ 2147483647) :
    Calls Try.prog 57 #[.int .i64 i, ptr bk, ptr bs] w fun e w' => e = .returned (.bool (decide (kcmp L t.k2 ≤ 0))) ∧ ∃ q, w' = w.drewN q := by
  obtain ⟨x0, x1, x2, x3, x4⟩ := hh.c
  obtain ⟨gi1, gi2, bi1, -, bi3⟩ := bi.out
  have HI := Lib.hid (fun m => biggest_any gi gi1 gi2 t (w.drewN m) (((Tch.refl [] w).drewN m).obj bi1 (by simp)))
  have HC := Lib.hid (fun m => compareKeys_any L t.k2 gL _ gi2 _ (w.drewN m) lL kt.short.2 (⟨kL.by'.tch ((Tch.refl [] w).drewN m), kL.ver⟩) ((bi3.tch ((Tch.refl _ _).drewN m)).at kt.u2 kt.ok.v2))
  have hi2 : (i : Int) < n := by omega
  generalize kcmp L t.k2 = x at *
  clear hh bi hi kt bi1 bi3 kL
  go_enter Try.func57, Try.ntmps57
  go_wp2_with fail
  go_quiet (first
    | (go_at_call 58; exact Calls.quiet_of_same (HI.out _))
    | (go_at_call 50; exact (HC.out _).mono (fun e w' h => ⟨h.1, dq_join h.2⟩)))
  go_wp2_with fail
  go_ret
  exact ⟨rfl, _, rfl⟩
theorem over2_any (bk bs h blk n c i gi gR : Nat) (t : Tb) (R : Kv) (tot stl lvl : Int) (op : Value) (w : World) (k0 : w.cell? ⟨bk, 1, none⟩ = some (keyV gR R.key.length (R.key.length + 8))) (hb : w.cell? ⟨bs, 0, none⟩ = some (ptr h)) (hh : HCells w h (some ⟨blk, 0, none⟩) n c tot stl lvl op) (hi : i < n)
    (ci : w.cell? ⟨blk, i, none⟩ = some (ptr gi)) (bi : PtBox w gi t) (kt : t.good) (kR : KeyAt w R gR (R.key.length + 8)) (lR : R.key.length ≤ 2147483647) :
    Calls Try.prog 59 #[.int .i64 i, ptr bk, ptr bs] w fun e w' => e = .returned (.bool (decide (kcmp R t.k1 < 0))) ∧ ∃ q, w' = w.drewN q := by
  obtain ⟨x0, x1, x2, x3, x4⟩ := hh.c
  obtain ⟨gi1, gi2, bi1, bi2, -⟩ := bi.out
  have HI := Lib.hid (fun m => smallest_any gi gi1 gi2 t (w.drewN m) (((Tch.refl [] w).drewN m).obj bi1 (by simp)))
  have HC := Lib.hid (fun m => compareKeys_any R t.k1 gR _ gi1 _ (w.drewN m) lR kt.short.1 (⟨kR.by'.tch ((Tch.refl [] w).drewN m), kR.ver⟩) ((bi2.tch ((Tch.refl _ _).drewN m)).at kt.u1 kt.ok.v1))
  have hi2 : (i : Int) < n := by omega
  generalize kcmp R t.k1 = x at *
  clear hh bi hi kt bi1 bi2 kR
  go_enter Try.func59, Try.ntmps59
  go_wp2_with fail
  go_quiet (first
    | (go_at_call 60; exact Calls.quiet_of_same (HI.out _))
    | (go_at_call 50; exact (HC.out _).mono (fun e w' h => ⟨h.1, dq_join h.2⟩)))
  go_wp2_with fail
  go_ret
  exact ⟨rfl, _, rfl⟩

theorem grow_tch2 (W : World) (q : Nat) (os : Array Obj) : Tch [] W (grow (W.drewN q) os) := grow_tch W q os

set_option maxHeartbeats 2000000 in
theorem overlapping_any (go j : Nat) (d : HD) (ts : List Tb) (L R : Kv) (gL gR : Nat) (w : World) (h : Lev w go j d ts) (hg : ∀ t ∈ ts, t.good) (ho : ∀ i, i < ts.length → OrdAt false ts i) (h30 : ts.length ≤ 100000)
    (kL : KeyAt w L gL (L.key.length + 8)) (kR : KeyAt w R gR (R.key.length + 8)) (lL : L.key.length ≤ 2147483647) (lR : R.key.length ≤ 2147483647) :
    Calls Try.prog 47 #[ptr d.h, .agg #[], .agg #[keyV gL L.key.length (L.key.length + 8), keyV gR R.key.length (R.key.length + 8), .bool false, .int .i64 0]] w
      fun e w' => e = .returned (.tuple #[.int .i64 (mFrom ts L), .int .i64 (mTo ts R)]) ∧ Tch [] w w' := by
  have hlen : d.ps.length = d.n := h.pv.len
  have htl : ts.length = d.n := by rw [← h.ts, List.length_map, hlen]
  obtain ⟨W, hW⟩ : ∃ W, W = ((w.alloc (.cells #[ptr d.h] 104)).alloc (.cells #[] 115)).alloc (.cells #[keyV gL L.key.length (L.key.length + 8), keyV gR R.key.length (R.key.length + 8), .bool false, .int .i64 0] 87) := ⟨_, rfl⟩
  have tW : Tch [] w W := by rw [hW]; exact (((Tch.refl _ _).alloc _).alloc _).alloc _
  have hsz : W.heap.size = w.heap.size + 1 + 1 + 1 := by rw [hW]; simp
  have ck : W.heap[w.heap.size + 1 + 1]? = some (.cells #[keyV gL L.key.length (L.key.length + 8), keyV gR R.key.length (R.key.length + 8), .bool false, .int .i64 0] 87 (0, 0)) := by
    rw [hW]
    exact alloc_at (by simp)
  have ck0 : W.cell? ⟨w.heap.size + 1 + 1, 0, none⟩ = some (keyV gL L.key.length (L.key.length + 8)) := by rw [cell_of_row W _ _ _ 87 (0, 0) ck]; rfl
  have ck1 : W.cell? ⟨w.heap.size + 1 + 1, 1, none⟩ = some (keyV gR R.key.length (R.key.length + 8)) := by rw [cell_of_row W _ _ _ 87 (0, 0) ck]; rfl
  have cs : W.cell? ⟨w.heap.size, 0, none⟩ = some (ptr d.h) := by
    have t2 : Tch [] (w.alloc (.cells #[ptr d.h] 104)) W := by rw [hW]; exact ((Tch.refl _ _).alloc _).alloc _
    rw [cell_of_row W _ _ _ 104 (0, 0) (t2.obj (alloc_at rfl) (by simp))]; rfl
  have S1 : ∀ X, Tch [] W X → Calls Try.prog 56 #[.int .i64 ts.length, .func (.func 57) #[] #[.pointer (some ⟨w.heap.size + 1 + 1, 0, none⟩), .pointer (some ⟨w.heap.size, 0, none⟩)]] X fun e w' => e = .returned (.int .i64 (mFrom ts L)) ∧ Tch [] X w' := by
    intro X tX
    have eg : ∀ args w, (callFunc 57 args).run Try.prog w = .ok (.enter 57 args) w := enters_of Try.func57 (by kernel_rfl) rfl
    refine (Any.sort_Search (P := Try.prog) (ρ := Try.laysO16_ren) Try.laysO16 57 #[.pointer (some ⟨w.heap.size + 1 + 1, 0, none⟩), .pointer (some ⟨w.heap.size, 0, none⟩)] ts.length (fun i => decide (kcmp L (ts.getD i default).k2 ≤ 0)) X eg (by omega) (fun m os i hi => ?_) (mono1 ho L)).mono ?_
    · have tg := (tW.trans tX).trans (grow_tch2 X m os)
      have h' := h.tch tg
      have hin : i < d.n := by omega
      have hmem : d.ps.getD i default ∈ d.ps := by simp [List.getD, List.getElem?_eq_getElem (show i < d.ps.length by omega)]
      have hb := h'.pv.box _ hmem
      have et : (d.ps.getD i default).2 = ts.getD i default := by rw [← h.ts]; simp [List.getD, List.getElem?_eq_getElem (show i < d.ps.length by omega)]
      have c0 := h'.pv.row
      have hA := h'.hh
      obtain ⟨blk, cap, e, -⟩ := ownsRow_value c0 (by omega)
      simp only [Value.slice.injEq, true_and] at e
      rw [e.1] at c0 hA
      have ci := (own_cell c0 (j := i) (u := ptr (d.ps.getD i default).1) (by simp [List.getD, List.getElem?_eq_getElem (show i < d.ps.length by omega)])).2
      have e1 : (⟨blk, 0, none⟩ : Addr).add i = ⟨blk, i, none⟩ := by unfold Addr.add; split <;> simp_all
      rw [e1] at ci
      rw [et] at hb
      have tc := tX.trans (grow_tch2 X m os)
      refine (over1_any (w.heap.size + 1 + 1) w.heap.size d.h blk d.n d.c i _ gL _ L _ _ _ _ _ ((tc.cell (p := ⟨w.heap.size + 1 + 1, 0, none⟩) (by rw [hsz]; simp) (by simp)).trans ck0) ((tc.cell (p := ⟨w.heap.size, 0, none⟩) (by rw [hsz]; simp; omega) (by simp)).trans cs) hA hin ci hb.1 hb.2 ⟨kL.by'.tch tg, kL.ver⟩ lL).mono ?_
      rintro e w' ⟨he, q, hq⟩
      exact ⟨he, q, #[], by rw [hq, grow_empty]⟩
    · rintro e w' ⟨he, q, os, rfl⟩
      exact ⟨he, grow_tch2 X q os⟩
  have S2 : ∀ X, Tch [] W X → Calls Try.prog 56 #[.int .i64 ts.length, .func (.func 59) #[] #[.pointer (some ⟨w.heap.size + 1 + 1, 0, none⟩), .pointer (some ⟨w.heap.size, 0, none⟩)]] X fun e w' => e = .returned (.int .i64 (mTo ts R)) ∧ Tch [] X w' := by
    intro X tX
    have eg : ∀ args w, (callFunc 59 args).run Try.prog w = .ok (.enter 59 args) w := enters_of Try.func59 (by kernel_rfl) rfl
    refine (Any.sort_Search (P := Try.prog) (ρ := Try.laysO16_ren) Try.laysO16 59 #[.pointer (some ⟨w.heap.size + 1 + 1, 0, none⟩), .pointer (some ⟨w.heap.size, 0, none⟩)] ts.length (fun i => decide (kcmp R (ts.getD i default).k1 < 0)) X eg (by omega) (fun m os i hi => ?_) (mono2 ho R)).mono ?_
    · have tg := (tW.trans tX).trans (grow_tch2 X m os)
      have h' := h.tch tg
      have hin : i < d.n := by omega
      have hmem : d.ps.getD i default ∈ d.ps := by simp [List.getD, List.getElem?_eq_getElem (show i < d.ps.length by omega)]
      have hb := h'.pv.box _ hmem
      have et : (d.ps.getD i default).2 = ts.getD i default := by rw [← h.ts]; simp [List.getD, List.getElem?_eq_getElem (show i < d.ps.length by omega)]
      have c0 := h'.pv.row
      have hA := h'.hh
      obtain ⟨blk, cap, e, -⟩ := ownsRow_value c0 (by omega)
      simp only [Value.slice.injEq, true_and] at e
      rw [e.1] at c0 hA
      have ci := (own_cell c0 (j := i) (u := ptr (d.ps.getD i default).1) (by simp [List.getD, List.getElem?_eq_getElem (show i < d.ps.length by omega)])).2
      have e1 : (⟨blk, 0, none⟩ : Addr).add i = ⟨blk, i, none⟩ := by unfold Addr.add; split <;> simp_all
      rw [e1] at ci
      rw [et] at hb
      have tc := tX.trans (grow_tch2 X m os)
      refine (over2_any (w.heap.size + 1 + 1) w.heap.size d.h blk d.n d.c i _ gR _ R _ _ _ _ _ ((tc.cell (p := ⟨w.heap.size + 1 + 1, 1, none⟩) (by rw [hsz]; simp) (by simp)).trans ck1) ((tc.cell (p := ⟨w.heap.size, 0, none⟩) (by rw [hsz]; simp; omega) (by simp)).trans cs) hA hin ci hb.1 hb.2 ⟨kR.by'.tch tg, kR.ver⟩ lR).mono ?_
      rintro e w' ⟨he, q, hq⟩
      exact ⟨he, q, #[], by rw [hq, grow_empty]⟩
    · rintro e w' ⟨he, q, os, rfl⟩
      exact ⟨he, grow_tch2 X q os⟩
  have HS1 := Lib.hid S1
  have HS2 := Lib.hid S2
  have HCE := Lib.hid (fun (X : World) (t : Tch [] W X) => (⟨(t.cell (p := ⟨w.heap.size + 1 + 1, 0, none⟩) (by rw [hsz]; simp) (by simp)).trans ck0, (t.cell (p := ⟨w.heap.size + 1 + 1, 1, none⟩) (by rw [hsz]; simp) (by simp)).trans ck1, (t.cell (p := ⟨w.heap.size, 0, none⟩) (by rw [hsz]; simp; omega) (by simp)).trans cs, (h.hh.tch (tW.trans t)).c.1⟩ : _ ∧ _ ∧ _ ∧ _))
  have HTW := Lib.hid tW
  have HW := Lib.hid hW
  obtain ⟨y0, y1, y2, y3⟩ := HCE.out W (Tch.refl _ _)
  rw [← htl] at y3
  generalize mFrom ts L = mf at *
  generalize mTo ts R = mt at *
  generalize L.key.length = nL at *
  generalize R.key.length = nR at *
  have e1 : decide ((nL : Int) + 8 = 0) = false := decide_eq_false (by omega)
  have e2 : ((nL : Int) + 8 == 0) = false := beq_eq_false_iff_ne.2 (by omega)
  have e3 : decide ((nR : Int) + 8 = 0) = false := decide_eq_false (by omega)
  have e4 : ((nR : Int) + 8 == 0) = false := beq_eq_false_iff_ne.2 (by omega)
  have HTL := Lib.hid htl
  clear h hg ho kL kR tW hsz ck ck0 ck1 cs S1 S2 hW htl
  go_enter Try.func47, Try.ntmps47
  go_upto_region 1 with fail
  rw [← HW.out]
  go_wp2_with fail
  refine (HS1.out _ (Tch.refl _ _)).mono ?_
  rintro e w1 ⟨rfl, t⟩
  have HT1 := Lib.hid t
  clear t y0 y1 y2 y3
  obtain ⟨y0, y1, y2, y3⟩ := HCE.out w1 HT1.out
  rw [← HTL.out] at y3
  go_wp2_with fail
  refine (HS2.out _ HT1.out).mono ?_
  rintro e w2 ⟨rfl, t⟩
  have HT2 := Lib.hid (HT1.out.trans t)
  clear t
  go_wp2_with fail
  go_ret2
  exact ⟨rfl, HTW.out.trans HT2.out⟩

end Go.Proofs.Ytdofgamahjmohaa
