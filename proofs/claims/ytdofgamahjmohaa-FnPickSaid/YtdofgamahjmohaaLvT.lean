/- sort.Slice over tables in order, at this dump. -/
import Derived.Test.YtdofgamahjmohaaLvS
namespace Go.Proofs.Ytdofgamahjmohaa
open Go.Shelf Go.RowKit Go.Lib Go.Sort
set_option maxRecDepth 100000

noncomputable def siT : TypeInfo := (Try.prog.info? 121).get (by kernel_rfl)
noncomputable def siE : TypeInfo := (Try.prog.info? 124).get (by kernel_rfl)
theorem siT_eq : Try.prog.info? 121 = some siT := by kernel_rfl
theorem siE_eq : Try.prog.info? 124 = some siE := by kernel_rfl
theorem siE_ptr : siE.hasPointers = true := by kernel_rfl
theorem siE_bytes : siE.bytes = 8 := by kernel_rfl
theorem siK (n : Nat) (h : 2 ≤ n) : Lib.swapperK n siE 22 = 3 := by
  unfold Lib.swapperK
  rw [siE_ptr, siE_bytes]
  rw [if_neg (by simp; omega), if_neg (by simp; omega)]
  rfl

/-- Tables that a slice of pointers holds. -/
structure PtsIn (W : World) (blk n c : Nat) (ps : List (Nat × Tb)) : Prop where
  row : W.ownsRow 0 124 1 (.slice (some ⟨blk, 0, none⟩) n c) n (ps.map (fun p => ptr p.1))
  box : ∀ p ∈ ps, PtBox W p.1 p.2 ∧ p.2.good

theorem PtsIn.len {W : World} {blk n c : Nat} {ps : List (Nat × Tb)} (h : PtsIn W blk n c ps) : ps.length = n := by
  have := h.row.1
  rw [List.length_map] at this
  omega

theorem PtBox.off {W W' : World} {g blk : Nat} {t : Tb} {cs : Array Value} {fr : Nat × Nat} (h : PtBox W g t) (k : Tch [blk] W W') (hb : W.heap[blk]? = some (.cells cs 124 fr)) : PtBox W' g t := by
  obtain ⟨g1, g2, h1, h2, h3⟩ := h.out
  have hS : ∀ b ∈ [blk], ∃ cur fr, W.heap[b]? = some (.cells cur 124 fr) := fun b hm => by
    obtain rfl := List.mem_singleton.1 hm
    exact ⟨cs, fr, hb⟩
  refine ⟨g1, g2, k.obj h1 (fun hm => ?_), row_keep h2 k hS (by decide), row_keep h3 k hS (by decide)⟩
  obtain rfl := List.mem_singleton.1 hm
  exact absurd rfl (cells_ne h1 hb (by decide))

theorem grow_tch (W : World) (q : Nat) (os : Array Obj) : Tch [] W (grow (Sort.ahead W q) os) := by
  refine ⟨rfl, rfl, ?_, fun k hk _ => ?_⟩
  · show W.heap.size ≤ (W.heap ++ os).size
    rw [Array.size_append]; omega
  · show (W.heap ++ os)[k]? = W.heap[k]?
    rw [Array.getElem?_append_left hk]

/-- Many tables, in order by what the closure tells. -/
theorem sort_many (W : World) (blk n c bx : Nat) (ps : List (Nat × Tb)) (hp : PtsIn W blk n c ps) (h2 : 2 ≤ n) (h30 : n ≤ 30) (cmp : Tb → Tb → Bool) (hO : SWO (fun (p q : PT W blk) => cmp p.1.2 q.1.2)) (g : Nat) (eg : ∀ args w, (callFunc g args).run Try.prog w = .ok (.enter g args) w)
    (hless : ∀ (W' : World) (gs : Nat → Nat) (ts : Nat → Tb), Tch [blk] W W' → (∀ t, t < n → W'.cell? ⟨blk, t, none⟩ = some (ptr (gs t)) ∧ PtBox W (gs t) (ts t) ∧ (ts t).good) → ∀ i j : Nat, i < n → j < n →
      Calls Try.prog g #[.int .i64 i, .int .i64 j, ptr bx] W' fun e w' => e = .returned (.bool (cmp (ts i) (ts j))) ∧ ∃ q, w' = W'.drewN q)
    (hs : ∀ i j, i < j → j < n → cmp (ps.getD i default).2 (ps.getD j default).2 = true) :
    Calls Try.prog 65 #[.iface 121 (.slice (some ⟨blk, 0, none⟩) n c), .func (.func g) #[] #[ptr bx]] W fun e w' => e = .returned (.tuple #[]) ∧ Tch [] W w' := by
  have hpl := hp.len
  have h0 : 0 < ps.length := by omega
  haveI : Inhabited (PT W blk) := ⟨⟨ps[0], hp.box _ (List.getElem_mem h0)⟩⟩
  have hd : ∃ d : Array (PT W blk), d.size = n ∧ ∀ i, i < n → (d[i]!).1 = ps.getD i default := by
    refine ⟨(ps.attach.map (fun p => (⟨p.1, hp.box p.1 p.2⟩ : PT W blk))).toArray, by simp [hpl], fun i hi => ?_⟩
    rw [getElem!_pos _ i (by simp; omega)]
    simp [List.getD, List.getElem?_eq_getElem (show i < ps.length by omega)]
  obtain ⟨d, hdn, hdi⟩ := hd
  subst hdn
  have hH : Holds (encP (W := W) (blk := blk)) W blk 0 d := fun j hj => by
    refine own_holds hp.row ?_
    rw [List.getElem?_map, List.getElem?_eq_getElem (show j < ps.length by omega)]
    have := hdi j hj
    unfold encP
    rw [this]
    simp [List.getD, List.getElem?_eq_getElem (show j < ps.length by omega)]
  have hblk : blk < W.heap.size := by
    have := World.block_lt_of_cell? W _ (hH 0 (by omega)).1
    exact this
  have hl : LessReads Try.prog g #[ptr bx] (encP (W := W) (blk := blk)) (fun p q => cmp p.1.2 q.1.2) blk 0 d.size W := by
    intro m os dk hs' i j hi hj
    have e : sortWorld (encP (W := W) (blk := blk)) W blk 0 m dk os = putRow encP (grow (Sort.ahead W m) os) blk 0 dk := by
      unfold sortWorld; rw [putRow_grow _ (Sort.ahead W m) _ blk 0 _ hblk]
    have hHg : Holds (encP (W := W) (blk := blk)) (grow (Sort.ahead W m) os) blk 0 d := holds_grow _ _ _ blk 0 d hblk (holds_ahead _ _ _ _ _ _ hH)
    refine hless _ (fun t => (dk[t]!).1.1) (fun t => (dk[t]!).1.2) (sw_tch _ _ _ _ _ _ _) (fun t ht => ⟨?_, (dk[t]!).2.1, (dk[t]!).2.2⟩) i j hi hj
    rw [e]
    have := cell?_putRow encP (grow (Sort.ahead W m) os) blk 0 d dk hHg hs' t (by omega)
    rw [Nat.zero_add] at this
    exact this
  have hS := Any.sort_Slice_sorted Try.laysGg6 121 124 siT siE siT_eq (by kernel_rfl) (by kernel_rfl) siE_eq 22 (fun _ => by kernel_rfl) (by kernel_rfl) (fun _ => by kernel_rfl) (encP (W := W) (blk := blk)) (fun _ => rfl) (fun p q => cmp p.1.2 q.1.2) hO g #[ptr bx] eg blk 0 c d h2 (by omega)
    85 (by rw [siK _ h2]; kernel_rfl) true
    (fun args W => run_callFunc_extern Try.func85 (by kernel_rfl) (by kernel_rfl) (by kernel_rfl) (e := Extern.ReflectliteSwapper.swap true) (by kernel_rfl) args W) W hl hH hblk
  refine hS.mono ?_
  rintro e w' ⟨rfl, d', q, os, hP, hSo, rfl⟩
  have hdd : d' = d := sorted_same hO hP hSo (fun i j hij hj => by
    have a := hdi i (by omega)
    have b := hdi j hj
    show cmp (d[i]!).1.2 (d[j]!).1.2 = true
    rw [a, b]; exact hs i j hij hj)
  subst hdd
  rw [putRow_self _ _ _ _ _ (holds_ahead _ _ _ _ _ _ hH)]
  exact ⟨rfl, grow_tch W q os⟩

/-- Many tables, in order by their numbers. -/
theorem sort0_many (W : World) (h blk n c bx : Nat) (ps : List (Nat × Tb)) (tot stl lvl : Int) (op : Value) (hp : PtsIn W blk n c ps) (hh : HCells W h (some ⟨blk, 0, none⟩) n c tot stl lvl op) (hb : W.heap[bx]? = some (.cells #[ptr h] 104 (0, 0))) (h2 : 2 ≤ n) (h30 : n ≤ 30)
    (hs : ∀ i j, i < j → j < n → (ps.getD i default).2.num < (ps.getD j default).2.num) :
    Calls Try.prog 65 #[.iface 121 (.slice (some ⟨blk, 0, none⟩) n c), .func (.func 66) #[] #[ptr bx]] W fun e w' => e = .returned (.tuple #[]) ∧ Tch [] W w' := by
  obtain ⟨cur, hcur⟩ := ownsRow_block hp.row (g := blk) rfl
  refine sort_many W blk n c bx ps hp h2 h30 (fun a b => decide (a.num < b.num)) (swo0 W blk) 66 (enters_of Try.func66 (by kernel_rfl) rfl) ?_ (fun i j hij hj => by simpa using hs i j hij hj)
  intro W' gs ts t hg i j hi hj
  have hne : ∀ {b : Nat} {cs : Array Value} {ty : TypeId}, W.heap[b]? = some (.cells cs ty (0, 0)) → ty ≠ 124 → b ∉ [blk] := fun hb' ht hm => by
    obtain rfl := List.mem_singleton.1 hm
    exact absurd rfl (cells_ne hb' hcur ht)
  have hb' := t.obj hb (hne hb (by decide))
  exact less0_any bx h blk n c i j (gs i) (gs j) (ts i) (ts j) tot stl lvl op W' (by rw [cell_of_row W' _ _ _ 104 (0, 0) hb']; rfl) ⟨t.obj hh.out (hne hh.out (by decide))⟩ hi hj (hg i hi).1 (hg j hj).1 ((hg i hi).2.1.off t hcur) ((hg j hj).2.1.off t hcur)

/-- Many tables, in order by their first keys. -/
theorem sort1_many (W : World) (h blk n c bx : Nat) (ps : List (Nat × Tb)) (tot stl lvl : Int) (op : Value) (hp : PtsIn W blk n c ps) (hh : HCells W h (some ⟨blk, 0, none⟩) n c tot stl lvl op) (hb : W.heap[bx]? = some (.cells #[ptr h] 104 (0, 0))) (h2 : 2 ≤ n) (h30 : n ≤ 30)
    (hs : ∀ i j, i < j → j < n → kcmp (ps.getD i default).2.k1 (ps.getD j default).2.k1 < 0) :
    Calls Try.prog 65 #[.iface 121 (.slice (some ⟨blk, 0, none⟩) n c), .func (.func 68) #[] #[ptr bx]] W fun e w' => e = .returned (.tuple #[]) ∧ Tch [] W w' := by
  obtain ⟨cur, hcur⟩ := ownsRow_block hp.row (g := blk) rfl
  refine sort_many W blk n c bx ps hp h2 h30 (fun a b => decide (kcmp a.k1 b.k1 < 0)) (swo1 W blk) 68 (enters_of Try.func68 (by kernel_rfl) rfl) ?_ (fun i j hij hj => by simpa using hs i j hij hj)
  intro W' gs ts t hg i j hi hj
  have hne : ∀ {b : Nat} {cs : Array Value} {ty : TypeId}, W.heap[b]? = some (.cells cs ty (0, 0)) → ty ≠ 124 → b ∉ [blk] := fun hb' ht hm => by
    obtain rfl := List.mem_singleton.1 hm
    exact absurd rfl (cells_ne hb' hcur ht)
  have hb' := t.obj hb (hne hb (by decide))
  exact less1_any bx h blk n c i j (gs i) (gs j) (ts i) (ts j) tot stl lvl op W' (by rw [cell_of_row W' _ _ _ 104 (0, 0) hb']; rfl) ⟨t.obj hh.out (hne hh.out (by decide))⟩ hi hj (hg i hi).1 (hg j hj).1 ((hg i hi).2.1.off t hcur) ((hg j hj).2.1.off t hcur) (hg i hi).2.2 (hg j hj).2.2

end Go.Proofs.Ytdofgamahjmohaa
