/- Levels of tables that came in. -/
import Derived.Test.YtdofgamahjmohaaOpenB
namespace Go.Proofs.Ytdofgamahjmohaa
open Go.ChangeShapes Go.WideShapes Go.Deep Go.RowKit
set_option maxRecDepth 100000

/-- A table as data. -/
structure Tb where
  num : Int
  t1 : Bool
  k1 : Kv
  t2 : Bool
  k2 : Kv
  bytes : Int
  ver : Int
  stale : Int
  age : Int
instance : Inhabited Tb := ⟨⟨0, false, default, false, default, 0, 0, 0, 0⟩⟩

def okI (v : Int) : Prop := -9223372036854775808 ≤ v ∧ v ≤ 9223372036854775807
def okU32 (v : Int) : Prop := 0 ≤ v ∧ v ≤ 4294967295
structure TbOk (t : Tb) : Prop where
  num : okV t.num
  v1 : okV t.k1.ver
  v2 : okV t.k2.ver
  bytes : okI t.bytes
  ver : okV t.ver
  stale : okU32 t.stale
  age : okI t.age

/-- A table's cells. -/
structure TbCells (w : World) (b : Addr) (t : Tb) (a1 : Option Addr) (c1 : Nat) (a2 : Option Addr) (c2 : Nat) : Prop where
  blk : b.block < w.heap.size
  x0 : w.cell? b = some (.int .u64 t.num)
  x1 : w.cell? (b.add 1) = some (.bool t.t1)
  x2 : w.cell? (b.add 2) = some (.slice a1 t.k1.key.length c1)
  x3 : w.cell? (b.add 3) = some (.int .u64 t.k1.ver)
  x4 : w.cell? (b.add 4) = some (.bool t.t2)
  x5 : w.cell? (b.add 5) = some (.slice a2 t.k2.key.length c2)
  x6 : w.cell? (b.add 6) = some (.int .u64 t.k2.ver)
  x7 : w.cell? (b.add 7) = some (.int .i64 t.bytes)
  x8 : w.cell? (b.add 8) = some (.int .u64 t.ver)
  x9 : w.cell? (b.add 9) = some (.int .u32 t.stale)
  x10 : w.cell? (b.add 10) = some (.int .i64 t.age)
  by1 : By w t.k1.key a1 c1
  by2 : By w t.k2.key a2 c2
def TbAt (w : World) (b : Addr) (t : Tb) : Prop := ∃ a1 c1 a2 c2, TbCells w b t a1 c1 a2 c2

theorem TbCells.tch {w w' : World} {b : Addr} {t : Tb} {a1 a2 : Option Addr} {c1 c2 : Nat} (h : TbCells w b t a1 c1 a2 c2) (k : Tch [] w w') : TbCells w' b t a1 c1 a2 c2 := by
  have one : ∀ n v, w.cell? (b.add n) = some v → w'.cell? (b.add n) = some v := fun n v e => by rw [k.cell (by rw [add_block]; exact h.blk) (by simp)]; exact e
  exact ⟨Nat.lt_of_lt_of_le h.blk k.size, by rw [k.cell h.blk (by simp)]; exact h.x0, one _ _ h.x1, one _ _ h.x2, one _ _ h.x3, one _ _ h.x4, one _ _ h.x5, one _ _ h.x6, one _ _ h.x7, one _ _ h.x8, one _ _ h.x9, one _ _ h.x10, h.by1.tch k, h.by2.tch k⟩
theorem TbAt.tch {w w' : World} {b : Addr} {t : Tb} (h : TbAt w b t) (k : Tch [] w w') : TbAt w' b t := by
  obtain ⟨a1, c1, a2, c2, h⟩ := h
  exact ⟨a1, c1, a2, c2, h.tch k⟩

/-- Tables, as a slice. -/
structure TabsAt (w : World) (ts : List Tb) (a : Option Addr) (c : Nat) : Prop where
  cap : ts.length ≤ c
  len : ts.length ≤ maxLen
  nil : a = none → c = 0 ∧ ts = []
  at' : ∀ ad, a = some ad → ∀ j, j < ts.length → TbAt w (ad.add (j * 11)) (ts.getD j default)
  ok : ∀ t ∈ ts, TbOk t
theorem TabsAt.tch {w w' : World} {ts : List Tb} {a : Option Addr} {c : Nat} (h : TabsAt w ts a c) (k : Tch [] w w') : TabsAt w' ts a c :=
  ⟨h.cap, h.len, h.nil, fun ad e j hj => (h.at' ad e j hj).tch k, h.ok⟩

/-- Levels of tables, as a slice. -/
structure LvAt (w : World) (LL : List (List Tb)) (a : Option Addr) (c : Nat) : Prop where
  cap : LL.length ≤ c
  len : LL.length ≤ maxLen
  nil : a = none → c = 0 ∧ LL = []
  at' : ∀ ad, a = some ad → ∀ i, i < LL.length → ad.block < w.heap.size ∧ ∃ ta tc, w.cell? (ad.add i) = some (.slice ta (LL.getD i []).length tc) ∧ TabsAt w (LL.getD i []) ta tc
theorem LvAt.tch {w w' : World} {LL : List (List Tb)} {a : Option Addr} {c : Nat} (h : LvAt w LL a c) (k : Tch [] w w') : LvAt w' LL a c :=
  ⟨h.cap, h.len, h.nil, fun ad e i hi => by
    obtain ⟨hb, ta, tc, h1, h2⟩ := h.at' ad e i hi
    exact ⟨Nat.lt_of_lt_of_le hb k.size, ta, tc, by rw [k.cell (by rw [add_block]; exact hb) (by simp)]; exact h1, h2.tch k⟩⟩

theorem Try.cellsTable : Try.prog.cellsOf 44 = 11 := by kernel_rfl
theorem Try.cellsI64 : Try.prog.cellsOf 2 = 1 := by kernel_rfl
theorem Try.cellsU32 : Try.prog.cellsOf 42 = 1 := by kernel_rfl
theorem Try.cellsTabs : Try.prog.cellsOf 39 = 1 := by kernel_rfl

theorem wf_i64 {a : Int} (h : (Lit.int .i64 a).wf = true) : okI a := by
  simp only [Lit.wf, Bool.and_eq_true, decide_eq_true_eq] at h
  exact ⟨h.1, h.2⟩
theorem wf_u32 {a : Int} (h : (Lit.int .u32 a).wf = true) : okU32 a := by
  simp only [Lit.wf, Bool.and_eq_true, decide_eq_true_eq] at h
  exact ⟨h.1, h.2⟩

section
variable {H : Type} {enc : TypeId × Value → H} {w : World} {fuel : Nat} {cs : List Value} {x : DataW H × List MemPlace}

theorem open_tb (h : DataW.trod enc Try.prog w 0 (fun _ => true) true fuel 44 cs = some x) (b : Addr) (hat : ∀ i, i < 11 → w.cell? (b.add i) = cs[i]?) : ∃ t, TbAt w b t ∧ TbOk t := by
  obtain ⟨xs, n', -, -, hcl0, hyl, hf⟩ := DataW.trod_struct Try.underlying44 h
  rw [Try.cellsTable] at hcl0
  match cs, hcl0 with
  | [c0, c1, c2, c3, c4, c5, c6, c7, c8, c9, c10], _ =>
    match xs, hyl with
    | [y0, y1, y2, y3, y4, y5, y6], _ =>
      have h0 : DataW.trod enc Try.prog w 0 (fun _ => true) true n' 23 [c0] = some y0 := by have := hf 0 ⟨_, 23, 0, _, _, _, _⟩ rfl; simp only [Try.cellsU64] at this; exact this
      have h1 : DataW.trod enc Try.prog w 0 (fun _ => true) true n' 25 [c1, c2, c3] = some y1 := by have := hf 1 ⟨_, 25, 1, _, _, _, _⟩ rfl; simp only [Try.cellsBound] at this; exact this
      have h2 : DataW.trod enc Try.prog w 0 (fun _ => true) true n' 25 [c4, c5, c6] = some y2 := by have := hf 2 ⟨_, 25, 4, _, _, _, _⟩ rfl; simp only [Try.cellsBound] at this; exact this
      have h3 : DataW.trod enc Try.prog w 0 (fun _ => true) true n' 2 [c7] = some y3 := by have := hf 3 ⟨_, 2, 7, _, _, _, _⟩ rfl; simp only [Try.cellsI64] at this; exact this
      have h4 : DataW.trod enc Try.prog w 0 (fun _ => true) true n' 23 [c8] = some y4 := by have := hf 4 ⟨_, 23, 8, _, _, _, _⟩ rfl; simp only [Try.cellsU64] at this; exact this
      have h5 : DataW.trod enc Try.prog w 0 (fun _ => true) true n' 42 [c9] = some y5 := by have := hf 5 ⟨_, 42, 9, _, _, _, _⟩ rfl; simp only [Try.cellsU32] at this; exact this
      have h6 : DataW.trod enc Try.prog w 0 (fun _ => true) true n' 2 [c10] = some y6 := by have := hf 6 ⟨_, 2, 10, _, _, _, _⟩ rfl; simp only [Try.cellsI64] at this; exact this
      obtain ⟨v0, e0, -, w0⟩ := DataW.trod_int Try.underlying23 h0
      obtain ⟨t1, a1, k1, cc1, e1, b1, o1⟩ := open_bound_cells h1
      obtain ⟨t2, a2, k2, cc2, e2, b2, o2⟩ := open_bound_cells h2
      obtain ⟨v3, e3, -, w3⟩ := DataW.trod_int Try.underlying2 h3
      obtain ⟨v4, e4, -, w4⟩ := DataW.trod_int Try.underlying23 h4
      obtain ⟨v5, e5, -, w5⟩ := DataW.trod_int Try.underlying42 h5
      obtain ⟨v6, e6, -, w6⟩ := DataW.trod_int Try.underlying2 h6
      simp only [List.cons.injEq, and_true] at e0 e1 e2 e3 e4 e5 e6
      obtain ⟨e1, e11, e12⟩ := e1
      obtain ⟨e2, e21, e22⟩ := e2
      subst e0; subst e1; subst e11; subst e12; subst e2; subst e21; subst e22; subst e3; subst e4; subst e5; subst e6
      have ab0 : b.add 0 = b := by unfold Addr.add; simp
      have z0 := hat 0 (by omega)
      rw [ab0] at z0
      have o0 : okV v0 := by unfold okV; exact wf_u64 w0
      have o4 : okV v4 := by unfold okV; exact wf_u64 w4
      exact ⟨⟨v0, t1, k1, t2, k2, v3, v4, v5, v6⟩, ⟨a1, cc1, a2, cc2, World.block_lt_of_cell? w _ z0, z0, hat 1 (by omega), hat 2 (by omega), hat 3 (by omega), hat 4 (by omega), hat 5 (by omega), hat 6 (by omega), hat 7 (by omega), hat 8 (by omega), hat 9 (by omega), hat 10 (by omega), b1, b2⟩, ⟨o0, o1, o2, wf_i64 w3, o4, wf_u32 w5, wf_i64 w6⟩⟩

/-- Tables that came in. -/
theorem open_tabs (h : DataW.trod enc Try.prog w 0 (fun _ => true) true fuel 39 cs = some x) : ∃ (a : Option Addr) (ts : List Tb) (c : Nat), cs = [.slice a ts.length c] ∧ TabsAt w ts a c := by
  rcases open_slice Try.underlying39 h with ⟨rfl, -⟩ | ⟨a, len, cap, m, n, D, Pl, rfl, hb, hl, hm, hmm, -, hi⟩
  · exact ⟨none, [], 0, rfl, by simp, by simp, fun _ => ⟨rfl, rfl⟩, fun ad hd => by simp at hd, by simp⟩
  · simp only [if_true] at hmm
    have one : ∀ i, i < len → ∃ t : Tb, TbAt w (a.add (i * 11)) t ∧ TbOk t := by
      intro i hil
      obtain ⟨cs', hc, ht⟩ := hi i (by omega)
      rw [Try.cellsTable] at hc
      obtain ⟨-, hcl, hat⟩ := World.cells?_some hc
      exact open_tb ht _ (fun j hj => hat j hj)
    obtain ⟨f, hf⟩ := choose_lt one
    have hlen : ((List.range len).map f).length = len := by simp
    refine ⟨some a, (List.range len).map f, cap, by rw [hlen], by rw [hlen]; exact hl, by rw [hlen]; first | exact hm | omega, by simp, fun ad hd j hj => ?_, fun t ht => ?_⟩
    · simp only [Option.some.injEq] at hd
      subst hd
      rw [hlen] at hj
      have e : ((List.range len).map f).getD j default = f j := by simp [List.getD, hj]
      rw [e]; exact (hf j hj).1
    · obtain ⟨j, hj, rfl⟩ := List.mem_map.1 ht
      exact (hf j (List.mem_range.1 hj)).2

/-- Levels that came in. -/
theorem open_levels (h : DataW.trod enc Try.prog w 0 (fun _ => true) true fuel 30 cs = some x) : ∃ (a : Option Addr) (LL : List (List Tb)) (c : Nat), cs = [.slice a LL.length c] ∧ LvAt w LL a c := by
  rcases open_slice1 Try.underlying30 Try.cellsTabs h with ⟨rfl, -⟩ | ⟨ad, len, cap, m, n, V, D, Pl, rfl, hb, hl, hm, hmm, -, hi⟩
  · exact ⟨none, [], 0, rfl, by simp, by simp, fun _ => ⟨rfl, rfl⟩, fun ad hd => by simp at hd⟩
  · simp only [if_true] at hmm
    have one : ∀ j, j < len → ∃ ts : List Tb, ∃ ta tc, w.cell? (ad.add j) = some (.slice ta ts.length tc) ∧ TabsAt w ts ta tc := by
      intro j hj
      obtain ⟨h1, h2⟩ := hi j (by omega)
      obtain ⟨ta, ts, tc, e, ht⟩ := open_tabs h2
      simp only [List.cons.injEq, and_true] at e
      exact ⟨ts, ta, tc, by rw [h1, e], ht⟩
    obtain ⟨f, hf⟩ := choose_lt one
    have hlen : ((List.range len).map f).length = len := by simp
    refine ⟨some ad, (List.range len).map f, cap, by rw [hlen], by rw [hlen]; exact hl, by rw [hlen]; first | exact hm | omega, by simp, fun a ha j hj => ?_⟩
    simp only [Option.some.injEq] at ha
    subst ha
    rw [hlen] at hj
    have e : ((List.range len).map f).getD j [] = f j := by simp [List.getD, hj]
    rw [e]
    obtain ⟨ta, tc, hc, ht⟩ := hf j hj
    have hb := World.block_lt_of_cell? w _ hc
    rw [add_block] at hb
    exact ⟨hb, ta, tc, hc, ht⟩
end

end Go.Proofs.Ytdofgamahjmohaa
