/- Priorities in a row: one of them set, some of them taken, all of them sorted. -/
import Derived.Test.YtdofgamahjmohaaFkB
import Derived.Test.YtdofgamahjmohaaFkR
import Derived.Test.YtdofgamahjmohaaLvT
import Derived.Shelf.GgSortFunc.SmallK
import Derived.Shelf.GgSortFunc.Tiny
import Derived.ArgAppend
namespace Go.Proofs.Ytdofgamahjmohaa
open Go.Shelf Go.RowKit Go.Lib Go.Sort
set_option maxRecDepth 100000

noncomputable def spT : TypeInfo := (Try.prog.info? 136).get (by kernel_rfl)
noncomputable def spE : TypeInfo := (Try.prog.info? 140).get (by kernel_rfl)
theorem spT_eq : Try.prog.info? 136 = some spT := by kernel_rfl
theorem spE_eq : Try.prog.info? 140 = some spE := by kernel_rfl
theorem spE_ptr : spE.hasPointers = true := by kernel_rfl
theorem spE_bytes : spE.bytes = 104 := by kernel_rfl
theorem spK (n : Nat) (h : 2 ≤ n) : Lib.swapperK n spE 25 = 9 := by
  unfold Lib.swapperK
  rw [spE_ptr, spE_bytes]
  rw [if_neg (by simp; omega), if_neg (by simp; omega)]
  rfl
theorem sortP_tiny (W : World) (p : Option Addr) (n c : Nat) (h1 : n ≤ 1) (lf : Fn) (lb : Array Value) :
    Calls Try.prog 65 #[.iface 136 (.slice p n c), .func lf #[] lb] W fun e w' => e = .returned (.tuple #[]) ∧ Tch [] W w' := by
  have hK : Lib.swapperK n spE 25 = n + 1 := by
    rcases Nat.eq_zero_or_pos n with h | h
    · subst h; simp [Lib.swapperK]
    · obtain rfl : n = 1 := by omega
      simp [Lib.swapperK]
  have hS := Any.sort_Slice_tiny Try.laysGg6 136 140 spT spE spT_eq (by kernel_rfl) (by kernel_rfl) spE_eq 25 (fun _ => by kernel_rfl) p n c h1 (83 + n) (by
    rw [hK]
    rcases Nat.eq_zero_or_pos n with h | h
    · subst h; kernel_rfl
    · obtain rfl : n = 1 := by omega
      kernel_rfl) lf #[] lb W
  refine hS.mono ?_
  rintro e w' ⟨rfl, os, rfl⟩
  exact ⟨rfl, grow_tch W 0 os⟩

/-- Priorities whose scores are no NaN. -/
abbrev PV := { x : PrD // Val x.adj }
def pv0 : PV := ⟨⟨0, oneW, oneW⟩, .inl num_one⟩
def encV (b gA gB n : Nat) (p : PV) : List Value := prC b gA gB n p.1
def ltV (p q : PV) : Bool := decide (V q.1.adj < V p.1.adj)
theorem swo_ltV : SWO ltV := ⟨fun x => by simp [ltV], fun x y z h1 h2 => by simp only [ltV, decide_eq_true_eq] at *; omega, fun x y z h1 h2 => by simp only [ltV, decide_eq_false_iff_not] at *; omega⟩
theorem flatP_len (b gA gB n : Nat) : ∀ l : List PrD, (l.flatMap (prC b gA gB n)).length = l.length * 7
  | [] => rfl
  | x :: l => by rw [List.flatMap_cons, List.length_append, flatP_len b gA gB n l, List.length_cons]; simp [prC]; omega
theorem flatP_at (b gA gB n : Nat) (l : List PrD) {t : Nat} (h : t < l.length * 7) : (l.flatMap (prC b gA gB n))[t]? = (prC b gA gB n (l.getD (t / 7) default))[t % 7]? := by
  have h1 : t / 7 < l.length := by omega
  have h2 := flat_at (prC b gA gB n) 7 (fun _ => rfl) l (t / 7) (t % 7) (l.getD (t / 7) default) (by simp [List.getD, List.getElem?_eq_getElem h1]) (by omega)
  rw [← h2]
  congr 1
  omega
theorem sw_tchK {α : Type} [Inhabited α] (enc : α → List Value) (k : Nat) (W : World) (blk off m : Nat) (dk : Array α) (os : Array Obj) : Tch [blk] W (sortWorldK enc k W blk off m dk os) := by
  refine ⟨rfl, rfl, ?_, fun k hk hm => ?_⟩
  · show W.heap.size ≤ ((W.heap.modify blk _) ++ os).size
    rw [Array.size_append, Array.size_modify]; omega
  · show ((W.heap.modify blk _) ++ os)[k]? = W.heap[k]?
    rw [Array.getElem?_append_left (by rw [Array.size_modify]; exact hk), Array.getElem?_modify, if_neg (fun e => hm (by simp [e]))]
theorem getD_toList {α : Type} [Inhabited α] (d : Array α) {j : Nat} (h : j < d.size) (x : α) : d.toList.getD j x = d[j]! := by
  rw [getElem!_pos _ j h]
  simp [List.getD, h]

set_option maxHeartbeats 2000000 in
theorem sortP_many (W : World) (base blk m c gV b gA gB n : Nat) (xs : List PrD) (hv : ∀ x ∈ xs, Val x.adj) (hrow : W.ownsRow base 140 7 (.slice (some ⟨blk, 0, none⟩) m c) m (xs.flatMap (prC b gA gB n))) (hb : W.cell? ⟨gV, 0, none⟩ = some (.slice (some ⟨blk, 0, none⟩) m c)) (hne : gV ≠ blk) (h2 : 2 ≤ m) (h7 : m ≤ 7) :
    Calls Try.prog 65 #[.iface 136 (.slice (some ⟨blk, 0, none⟩) m c), .func (.func 73) #[] #[ptr gV]] W fun e w' => e = .returned (.tuple #[]) ∧ ∃ R : List PrD, R.Perm xs ∧ R.Pairwise (fun x y => ¬ V x.adj < V y.adj) ∧ w'.ownsRow base 140 7 (.slice (some ⟨blk, 0, none⟩) m c) m (R.flatMap (prC b gA gB n)) ∧ Tch [blk] W w' := by
  haveI : Inhabited PV := ⟨pv0⟩
  have hln : xs.length = m := by
    have h := hrow.1
    rw [flatP_len] at h
    omega
  obtain ⟨d, hd, hdm⟩ : ∃ d : Array PV, d.size = m ∧ d.toList.map (·.1) = xs := ⟨(xs.attach.map (fun p => (⟨p.1, hv p.1 p.2⟩ : PV))).toArray, by simp [hln], by simp [List.map_map, Function.comp_def]⟩
  have hdi : ∀ e : Array PV, ∀ i, i < e.size → (e.toList.map (·.1)).getD i default = (e[i]!).1 := fun e i hi => by
    rw [getElem!_pos _ i hi]
    simp [List.getD, hi]
  have hflat : ∀ e : Array PV, ∀ t, t < e.size * 7 → ((e.toList.map (·.1)).flatMap (prC b gA gB n))[t]? = some (flatK (encV b gA gB n) 7 e)[t]! := fun e t ht => by
    rw [get_flatK _ _ _ _ ht, flatP_at _ _ _ _ _ (by simpa using ht), hdi e _ (by omega)]
    have : t % 7 < (encV b gA gB n e[t / 7]!).length := by show t % 7 < 7; omega
    rw [getElem!_pos (encV b gA gB n e[t / 7]!) (t % 7) this]
    exact List.getElem?_eq_getElem this
  obtain ⟨cur, hcur⟩ := ownsRow_block hrow (g := blk) rfl
  have hH : HoldsK (encV b gA gB n) 7 W blk 0 d := fun j hj => by
    rw [size_flatK, hd] at hj
    rw [Nat.zero_add]
    refine ⟨?_, frozen_of hcur⟩
    have := hrow.cellAt j (by omega)
    rw [this]
    rw [← hdm]
    exact hflat d j (by omega)
  have hblk : blk < W.heap.size := World.block_lt_of_cell? W _ (hH 0 (by rw [size_flatK]; omega)).1
  have hbxl : gV < W.heap.size := World.block_lt_of_cell? W _ hb
  have hl : LessReadsK Try.prog 73 #[ptr gV] (encV b gA gB n) 7 ltV blk 0 d.size W := by
    intro q os dk hs' i j hi hj
    have hcell : ∀ t, t < m → (sortWorldK (encV b gA gB n) 7 W blk 0 q dk os).cell? ⟨blk, t * 7 + 2, none⟩ = some (.float .f64 (dk[t]!).1.adj) := fun t ht => by
      have h0 : HoldsK (encV b gA gB n) 7 (sortWorldK (encV b gA gB n) 7 W blk 0 q dk os) blk 0 dk := by
        unfold sortWorldK
        exact holdsK_grow _ _ _ _ _ _ _ (by show blk < (W.heap.modify blk _).size; rw [Array.size_modify]; exact hblk) (holdsK_putRowK _ _ _ _ _ d dk (holdsK_ahead _ _ _ _ _ _ _ hH) hs')
      have h1 := (h0.cell (i := t) (c := 2) (by omega) (by omega)).1
      rw [Nat.zero_add] at h1
      rw [h1]
      rfl
    have hbx := (sw_tchK (encV b gA gB n) 7 W blk 0 q dk os).cell (p := ⟨gV, 0, none⟩) hbxl (by simpa using hne)
    refine (lessP_any gV blk m c i j _ _ _ (by omega) (by omega) (by omega) (by rw [hbx]; exact hb) (hcell i (by omega)) (hcell j (by omega))).mono ?_
    rintro e w' ⟨rfl, q, rfl⟩
    refine ⟨?_, q, rfl⟩
    rw [gtW_V (dk[i]!).2 (dk[j]!).2]
    rfl
  have hS := Any.sort_Slice_small_cells_sorted Try.laysGg6 136 140 spT spE spT_eq (by kernel_rfl) (by kernel_rfl) spE_eq 25 (fun _ => by kernel_rfl) (encV b gA gB n) 7 (fun _ => rfl) (by kernel_rfl) (fun _ => by kernel_rfl) (fun x v hx => by
      simp only [encV, prC, List.mem_cons, List.not_mem_nil, or_false] at hx
      rcases hx with rfl | rfl | rfl | rfl | rfl | rfl | rfl <;> rfl) ltV swo_ltV 73 #[ptr gV] (enters_of Try.func73 (by kernel_rfl) rfl) blk 0 c d (by omega) (by omega)
    91 (by rw [hd, spK _ h2]; kernel_rfl) false
    (fun args W => run_callFunc_extern Try.func91 (by kernel_rfl) (by kernel_rfl) (by kernel_rfl) (e := Extern.ReflectliteSwapper.swap false) (by kernel_rfl) args W) W hl hH hblk
  rw [hd] at hS
  refine hS.mono ?_
  rintro e w' ⟨rfl, d', q, os, hP, hSo, rfl⟩
  have hsz : d'.size = m := by rw [hP.1, hd]
  refine ⟨rfl, d'.toList.map (·.1), ?_, ?_, ?_, sw_tchK (encV b gA gB n) 7 W blk 0 q d' os⟩
  · obtain ⟨-, -, hperm⟩ := hP
    have e1 : d'.extract 0 m = d' := by rw [← hsz]; exact Array.extract_size
    have e2 : d.extract 0 m = d := by rw [← hd]; exact Array.extract_size
    rw [e1, e2] at hperm
    rw [← hdm]
    exact hperm.map _
  · rw [List.pairwise_map, List.pairwise_iff_getElem]
    intro i j hi hj hij
    have hi' : i < d'.size := by simpa using hi
    have hj' : j < d'.size := by simpa using hj
    have := hSo i j (Nat.zero_le _) hij (by omega)
    rw [getElem!_pos d' j hj', getElem!_pos d' i hi'] at this
    simp only [ltV, decide_eq_false_iff_not] at this
    simp only [Array.getElem_toList]
    exact this
  · obtain ⟨hr1, ⟨h1, -⟩ | ⟨g, cap, cu, h1, hbb, hc, hn, hcm, hcs, ht⟩⟩ := hrow
    · simp at h1
    · simp only [Value.slice.injEq, Option.some.injEq, Addr.mk.injEq, true_and, and_true] at h1
      obtain ⟨rfl, rfl⟩ := h1
      refine ⟨by rw [flatP_len]; simp [hsz], .inr ⟨blk, c, putCells id 0 (flatK (encV b gA gB n) 7 d') cu, rfl, hbb, ?_, hn, hcm, by unfold putCells; simpa using hcs, ?_⟩⟩
      · show ((W.heap.modify blk _) ++ os)[blk]? = _
        rw [Array.getElem?_append_left (by rw [Array.size_modify]; exact hblk), Array.getElem?_modify, if_pos rfl, hc]
        rfl
      · unfold putCells
        apply List.ext_getElem?
        intro j
        rw [List.getElem?_take]
        by_cases hj : j < m * 7
        · rw [if_pos hj]
          have hjc : j < cu.size := by
            have := Nat.mul_le_mul_right 7 hn
            omega
          rw [hflat d' j (by omega)]
          simp only [Array.toList_mapIdx, List.getElem?_mapIdx, Array.getElem?_toList]
          rw [Array.getElem?_eq_getElem hjc]
          simp only [Option.map_some]
          rw [if_pos (by rw [size_flatK]; omega), Nat.sub_zero]
          rfl
        · rw [if_neg hj, List.getElem?_eq_none (by rw [flatP_len]; simp [hsz]; omega)]

/-- The row with one cell set. -/
theorem flatP_set (b gA gB n r : Nat) : ∀ (xs : List PrD) (j : Nat), j < xs.length → (xs.flatMap (prC b gA gB n)).set (j * 7 + 2) (.float .f64 r) = (xs.set j ⟨(xs.getD j default).lvl, (xs.getD j default).sc, r⟩).flatMap (prC b gA gB n)
  | [], _, h => by simp at h
  | x :: xs, 0, _ => by simp [prC]
  | x :: xs, j + 1, h => by
    have ih := flatP_set b gA gB n r xs j (by simpa using h)
    have e : (j + 1) * 7 + 2 = (j * 7 + 2) + 7 := by omega
    rw [List.flatMap_cons, List.set_cons_succ, List.flatMap_cons, e]
    have e2 : (prC b gA gB n x ++ xs.flatMap (prC b gA gB n)).set (j * 7 + 2 + 7) (.float .f64 r) = prC b gA gB n x ++ (xs.flatMap (prC b gA gB n)).set (j * 7 + 2) (.float .f64 r) := by
      simp [prC]
    rw [e2, ih]
    simp [List.getD]
theorem prL_next {sc : Nat → Nat} {b i n r : Nat} (hb : 1 ≤ b) (hi : b ≤ i) (hn : i < n) (hr : adjOne sc (befo b i) i = r) : (prL sc b i n).set (befo b i) ⟨((prL sc b i n).getD (befo b i) default).lvl, ((prL sc b i n).getD (befo b i) default).sc, r⟩ = prL sc b (i + 1) n := by
  have hbf : befo b i < n := by unfold befo; split <;> omega
  rw [prL_get sc b i hbf]
  apply List.ext_getElem
  · simp [prL]
  · intro j h1 h2
    have hj : j < n := by simpa [prL] using h2
    rw [List.getElem_set]
    by_cases e : befo b i = j
    · rw [if_pos e]
      subst e
      simp [prL, adjAt_step sc hb hi, hr]
    · rw [if_neg e]
      have e' : ¬ j = befo b i := fun h => e h.symm
      simp [prL, adjAt_step sc hb hi, e']
/-- A cell of the row set: what else is known stays. -/
theorem PS.set {w0 W : World} {gV gT b gA gB n g c : Nat} {xs ys : List PrD} (k : Nat) (u : Value) (h : PS w0 W gV gT b gA gB n xs (some ⟨g, 0, none⟩) c) (he : (xs.flatMap (prC b gA gB n)).set k u = ys.flatMap (prC b gA gB n)) (hl : ys.length = xs.length) : PS w0 (W.setCell ⟨g, k, none⟩ u) gV gT b gA gB n ys (some ⟨g, 0, none⟩) c := by
  have hs : ∀ {e' : TypeId}, 140 ≠ e' → Sep W [g] e' := fun h1 => sep_row h.row h1
  have t : Tch [g] W (W.setCell ⟨g, k, none⟩ u) := (Tch.refl _ _).setCell (p := ⟨g, k, none⟩) (fun _ => by simp) _
  have ho := own_set (k := k) u (⟨h.t, h.row⟩ : Own w0 W 140 7 (.slice (some ⟨g, 0, none⟩) xs.length c) xs.length (xs.flatMap (prC b gA gB n)))
  rw [he] at ho
  refine ⟨ho.t, ?_, obj_off h.tt t (hs (by decide)), ?_, h.new⟩
  · rw [hl]; exact obj_off h.pv t (hs (by decide))
  · rw [hl]; exact ho.row
theorem PS.keep {w0 W : World} {gV gT b gA gB n g c : Nat} {xs : List PrD} (k : Nat) (u : Value) (h : PS w0 W gV gT b gA gB n xs (some ⟨g, 0, none⟩) c) : KeepO W (W.setCell ⟨g, k, none⟩ u) := fun q cs e h1 h2 _ =>
  obj_off h1 ((Tch.refl [g] W).setCell (p := ⟨g, k, none⟩) (fun _ => by simp) u) (sep_row h.row (fun e => h2 e.symm))
/-- Some cells of the row set. -/
def setL : List Value → Nat → List Value → List Value
  | xs, _, [] => xs
  | xs, k, u :: us => setL (xs.set k u) (k + 1) us
theorem own_sets {w1 : World} {e : TypeId} {sz g n c : Nat} : ∀ (us : List Value) (k : Nat) (xs : List Value) (w : World), Own w1 w e sz (.slice (some ⟨g, 0, none⟩) n c) n xs → Own w1 (w.setCells g k us) e sz (.slice (some ⟨g, 0, none⟩) n c) n (setL xs k us)
  | [], _, _, _, h => h
  | u :: us, k, _, _, h => own_sets us (k + 1) _ _ (own_set u h)
theorem tch_sets {S : List Nat} {g : Nat} (hg : g ∈ S) {w0 : World} : ∀ (us : List Value) (k : Nat) (w : World), Tch S w0 w → Tch S w0 (w.setCells g k us)
  | [], _, _, h => h
  | u :: us, k, _, h => tch_sets hg us (k + 1) _ (h.setCell (p := ⟨g, k, none⟩) (fun _ => hg) u)
theorem setL_prC (b gA gB n : Nat) (x : PrD) : ∀ (xs : List PrD) (j : Nat), j < xs.length → setL (xs.flatMap (prC b gA gB n)) (j * 7) (prC b gA gB n x) = (xs.set j x).flatMap (prC b gA gB n)
  | [], _, h => by simp at h
  | y :: xs, 0, _ => by simp [prC, setL]
  | y :: xs, j + 1, h => by
    have ih := setL_prC b gA gB n x xs j (by simpa using h)
    have e : (j + 1) * 7 = j * 7 + 7 := by omega
    rw [List.flatMap_cons, List.set_cons_succ, List.flatMap_cons, e, ← ih]
    simp [prC, setL]
theorem PS.sets {w0 W : World} {gV gT b gA gB n g c : Nat} {xs : List PrD} (j : Nat) (x : PrD) (h : PS w0 W gV gT b gA gB n xs (some ⟨g, 0, none⟩) c) (hj : j < xs.length) : PS w0 (W.setCells g (j * 7) (prC b gA gB n x)) gV gT b gA gB n (xs.set j x) (some ⟨g, 0, none⟩) c := by
  have hs : ∀ {e' : TypeId}, 140 ≠ e' → Sep W [g] e' := fun h1 => sep_row h.row h1
  have t : Tch [g] W (W.setCells g (j * 7) (prC b gA gB n x)) := tch_sets (by simp) _ _ _ (Tch.refl _ _)
  have ho := own_sets (prC b gA gB n x) (j * 7) _ _ (⟨h.t, h.row⟩ : Own w0 W 140 7 (.slice (some ⟨g, 0, none⟩) xs.length c) xs.length (xs.flatMap (prC b gA gB n)))
  rw [setL_prC b gA gB n x xs j hj] at ho
  refine ⟨ho.t, ?_, obj_off h.tt t (hs (by decide)), ?_, h.new⟩
  · rw [List.length_set]; exact obj_off h.pv t (hs (by decide))
  · rw [List.length_set]; exact ho.row

/-- What stands when the first i of a row have been filtered in place. -/
def halfL (PL : List PrD) (i : Nat) : List PrD := (PL.take i).filter wants ++ PL.drop ((PL.take i).filter wants).length
theorem half_le (PL : List PrD) (i : Nat) : ((PL.take i).filter wants).length ≤ i := by
  have h1 := List.length_filter_le wants (PL.take i)
  rw [List.length_take] at h1
  omega
theorem half_len (PL : List PrD) {i : Nat} (h : i ≤ PL.length) : (halfL PL i).length = PL.length := by
  have := half_le PL i
  unfold halfL
  rw [List.length_append, List.length_drop]
  omega
theorem half_zero (PL : List PrD) : halfL PL 0 = PL := by simp [halfL]
theorem half_get (PL : List PrD) {i : Nat} (h : i < PL.length) : (halfL PL i).getD i default = PL[i] := by
  have := half_le PL i
  unfold halfL
  simp only [List.getD]
  rw [List.getElem?_append_right this, List.getElem?_drop]
  have e : ((PL.take i).filter wants).length + (i - ((PL.take i).filter wants).length) = i := by omega
  rw [e, List.getElem?_eq_getElem h]
  rfl
theorem take_more (PL : List PrD) {i : Nat} (h : i < PL.length) : (PL.take (i + 1)).filter wants = (PL.take i).filter wants ++ if wants PL[i] = true then [PL[i]] else [] := by
  rw [List.take_succ_eq_append_getElem h, List.filter_append]
  congr 1
  rw [List.filter_cons]
  rfl
theorem half_put (PL : List PrD) {i : Nat} (h : i < PL.length) (hw : wants PL[i] = true) : (halfL PL i).set ((PL.take i).filter wants).length PL[i] = halfL PL (i + 1) := by
  have := half_le PL i
  unfold halfL
  rw [take_more PL h, if_pos hw]
  rw [List.set_append_right _ _ (Nat.le_refl _), Nat.sub_self]
  have e : PL.drop ((PL.take i).filter wants).length = PL[((PL.take i).filter wants).length] :: PL.drop (((PL.take i).filter wants).length + 1) := List.drop_eq_getElem_cons (by omega)
  rw [e, List.set_cons_zero, List.append_assoc, List.length_append]
  rfl
theorem half_skip (PL : List PrD) {i : Nat} (h : i < PL.length) (hw : wants PL[i] = false) : halfL PL (i + 1) = halfL PL i ∧ (PL.take (i + 1)).filter wants = (PL.take i).filter wants := by
  have e : (PL.take (i + 1)).filter wants = (PL.take i).filter wants := by rw [take_more PL h, hw]; simp
  unfold halfL
  rw [e]
  exact ⟨rfl, rfl⟩

/-- One more that is wanted, put down in place. -/
theorem half_app {w0 W W' : World} {gV gT b gA gB n g c i q m : Nat} {PL : List PrD} {x : PrD} (h : PS w0 W gV gT b gA gB n (halfL PL i) (some ⟨g, 0, none⟩) c) (hi : i < PL.length) (hx : PL[i] = x) (hw : wants x = true) (hm : m = ((PL.take i).filter wants).length) (t : Tch [] W W') (hq : W'.heap[q]? = some (.cells (prC b gA gB n x).toArray 140 (0, 0))) (hc : PL.length ≤ c) :
    ∃ v' w', (Builtin.append_ #[136, 136] 136 #[.slice (some ⟨g, 0, none⟩) m c, .slice (some ⟨q, 0, none⟩) 1 1]).run Try.prog W' = .ok v' w' ∧ v' = .slice (some ⟨g, 0, none⟩) (m + 1) c ∧ PS w0 w' gV gT b gA gB n (halfL PL (i + 1)) (some ⟨g, 0, none⟩) c := by
  obtain ⟨i0, hinf, hz0, hz1, hz2⟩ := info_parts Try.infoPr
  have h' := h.tch t
  have hmi : m ≤ i := by rw [hm]; exact half_le PL i
  have hml : m < (halfL PL i).length := by rw [half_len PL (by omega)]; omega
  have hrow := h'.row
  have hflen := flatP_len b gA gB n (halfL PL i)
  have hcell : ∀ j, j < 7 → W'.cell? ⟨g, m * 7 + j, none⟩ = ((halfL PL i).flatMap (prC b gA gB n))[m * 7 + j]? := fun j hj => hrow.cellAt (m * 7 + j) (by omega)
  have hr := run_append_room_cells (P := Try.prog) W' 136 136 140 i0 Try.underlying136 hinf g 0 m c ⟨q, 0, none⟩ 1 1 (prC b gA gB n x) (by rw [hz1]; rfl) (fun j u hj => by
    have e1 : (⟨q, 0, none⟩ : Addr).add j = ⟨q, j, none⟩ := by unfold Addr.add; split <;> simp_all
    rw [e1, cell_of_row W' q j _ _ _ hq]
    simpa using hj) (fun u hu => by
      simp only [prC, List.mem_cons, List.not_mem_nil, or_false] at hu
      rcases hu with rfl | rfl | rfl | rfl | rfl | rfl | rfl <;> rfl) (by omega) (fun j hj => by
      rw [hz1, Nat.zero_add, hcell j hj]
      have : m * 7 + j < ((halfL PL i).flatMap (prC b gA gB n)).length := by
        have : j < 7 := hj
        omega
      rw [List.getElem?_eq_getElem this]; rfl) (fun j hj => by
      rw [hz1]
      exact own_froz (⟨h'.t, hrow⟩ : Own w0 W' _ 7 _ _ _))
  rw [hz1, Nat.zero_add] at hr
  refine ⟨_, _, hr, rfl, ?_⟩
  have hs := h'.sets m x hml
  have e : (halfL PL i).set m x = halfL PL (i + 1) := by
    have := half_put PL hi (by rw [hx]; exact hw)
    rw [hx, ← hm] at this
    exact this
  rw [e] at hs
  exact hs

/-- Only those that are wanted, in the variable. -/
theorem PS.cut {w0 W : World} {gV gT b gA gB n g c i m : Nat} {PL : List PrD} (h : PS w0 W gV gT b gA gB n (halfL PL i) (some ⟨g, 0, none⟩) c) (hi : i ≤ PL.length) (hm : m = ((PL.take i).filter wants).length) :
    PS w0 (W.setCell ⟨gV, 0, none⟩ (.slice (some ⟨g, 0, none⟩) m c)) gV gT b gA gB n ((PL.take i).filter wants) (some ⟨g, 0, none⟩) c := by
  have t : Tch [gV] W (W.setCell ⟨gV, 0, none⟩ (.slice (some ⟨g, 0, none⟩) m c)) := (Tch.refl _ _).setCell (p := ⟨gV, 0, none⟩) (fun _ => by simp) _
  have hz := heap_setCell_same W gV 0 _ _ (.slice (some ⟨g, 0, none⟩) m c) h.pv
  have hle := half_le PL i
  have hlen := half_len PL hi
  have ho := own_pre (⟨h.t, h.row⟩ : Own w0 W 140 7 (.slice (some ⟨g, 0, none⟩) (halfL PL i).length c) (halfL PL i).length _) (k := m) (by omega)
  have e : ((halfL PL i).flatMap (prC b gA gB n)).take (m * 7) = ((PL.take i).filter wants).flatMap (prC b gA gB n) := by
    unfold halfL
    rw [List.flatMap_append, List.take_append_of_le_length (by rw [flatP_len]; omega), List.take_of_length_le (by rw [flatP_len]; omega)]
  rw [e] at ho
  refine ⟨tch_new h.t t (fun g hg => by rw [List.mem_singleton.1 hg]; exact h.new), by rw [← hm]; simpa using hz, obj_off h.tt t (sep_obj h.pv (by decide)), ?_, h.new⟩
  rw [← hm]
  exact ownsRow_off ho.row t (sep_obj h.pv (by decide))

theorem PS.sort {w0 W : World} {gV gT b gA gB n g c m : Nat} {xs : List PrD} (h : PS w0 W gV gT b gA gB n xs (some ⟨g, 0, none⟩) c) (hm : m = xs.length) (h7 : m ≤ 7) (hv : ∀ x ∈ xs, Val x.adj) :
    Calls Try.prog 65 #[.iface 136 (.slice (some ⟨g, 0, none⟩) m c), .func (.func 73) #[] #[ptr gV]] W fun e w' => e = .returned (.tuple #[]) ∧ ∃ R : List PrD, R.length = m ∧ R.Perm xs ∧ R.Pairwise (fun x y => ¬ V x.adj < V y.adj) ∧ PS w0 w' gV gT b gA gB n R (some ⟨g, 0, none⟩) c := by
  subst hm
  by_cases h1 : xs.length ≤ 1
  · refine (sortP_tiny W (some ⟨g, 0, none⟩) xs.length c h1 (.func 73) #[ptr gV]).mono ?_
    rintro e w' ⟨rfl, t⟩
    refine ⟨rfl, xs, rfl, List.Perm.refl _, ?_, h.tch t⟩
    match xs, h1 with
    | [], _ => exact List.Pairwise.nil
    | [x], _ => exact List.pairwise_singleton _ _
  · have hs : ∀ {e' : TypeId}, 140 ≠ e' → Sep W [g] e' := fun h1 => sep_row h.row h1
    obtain ⟨cur, hcur⟩ := ownsRow_block h.row (g := g) rfl
    have hne : gV ≠ g := cells_ne h.pv hcur (by decide)
    refine (sortP_many W w0.heap.size g xs.length c gV b gA gB n xs hv h.row (by rw [cell_of_row W gV 0 _ _ _ h.pv]; rfl) hne (by omega) h7).mono ?_
    rintro e w' ⟨rfl, R, q1, q2, q3, q4⟩
    have hl : R.length = xs.length := q1.length_eq
    refine ⟨rfl, R, hl, q1, q2, ?_⟩
    have hn : w0.heap.size ≤ g := (h.row.lt g (by simp [Value.ownBlock])).1
    refine ⟨tch_new h.t q4 (fun k hk => by rw [List.mem_singleton.1 hk]; exact hn), by rw [hl]; exact obj_off h.pv q4 (hs (by decide)), obj_off h.tt q4 (hs (by decide)), by rw [hl]; exact q3, h.new⟩

end Go.Proofs.Ytdofgamahjmohaa
