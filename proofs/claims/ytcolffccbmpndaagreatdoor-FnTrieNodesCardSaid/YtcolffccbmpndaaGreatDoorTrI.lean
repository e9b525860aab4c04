/- (*Trie).IDs: the numbers that a key finds, in order. -/
import Derived.Test.YtcolffccbmpndaaGreatDoorTrS
import Derived.Test.YtcolffccbmpndaaGreatDoorShelf
import Derived.Sort.LotA
import Derived.BigQuiet
namespace Go.Proofs.YtcolffccbmpndaaGreatDoor
open Go.Shelf Go.RowKit Go.Lib Go.Sort Go.Deep
set_option maxRecDepth 100000

theorem sw_tch {α : Type} [Inhabited α] (enc : α → Value) (W : World) (blk off m : Nat) (dk : Array α) (os : Array Obj) : Tch [blk] W (sortWorld enc W blk off m dk os) := by
  refine ⟨rfl, rfl, ?_, fun k hk hm => ?_⟩
  · show W.heap.size ≤ ((W.heap.modify blk _) ++ os).size
    rw [Array.size_append, Array.size_modify]; omega
  · show ((W.heap.modify blk _) ++ os)[k]? = W.heap[k]?
    rw [Array.getElem?_append_left (by rw [Array.size_modify]; exact hk), Array.getElem?_modify, if_neg (fun e => hm (by simp [e]))]
theorem grow_tch (W : World) (q : Nat) (os : Array Obj) : Tch [] W (grow (Sort.ahead W q) os) := by
  refine ⟨rfl, rfl, ?_, fun k hk _ => ?_⟩
  · show W.heap.size ≤ (W.heap ++ os).size
    rw [Array.size_append]; omega
  · show (W.heap ++ os)[k]? = W.heap[k]?
    rw [Array.getElem?_append_left hk]
theorem own_holds {W : World} {base blk n c : Nat} {e : TypeId} {vs : List Value} (h : W.ownsRow base e 1 (.slice (some ⟨blk, 0, none⟩) n c) n vs) {j : Nat} {u : Value} (hj : vs[j]? = some u) : W.cell? ⟨blk, 0 + j, none⟩ = some u ∧ W.frozen? ⟨blk, 0 + j, none⟩ = false := by
  have h1 := (own_cell h hj).2
  rw [addr_add0] at h1
  rw [Nat.zero_add]
  refine ⟨h1, ?_⟩
  obtain ⟨cur, hc⟩ := ownsRow_block h (g := blk) rfl
  exact frozen_of hc

noncomputable def siT : TypeInfo := (Tryz.prog.info? 31).get (by kernel_rfl)
noncomputable def siE : TypeInfo := (Tryz.prog.info? 26).get (by kernel_rfl)
theorem siT_eq : Tryz.prog.info? 31 = some siT := by kernel_rfl
theorem siE_eq : Tryz.prog.info? 26 = some siE := by kernel_rfl
theorem siE_ptr : siE.hasPointers = false := by kernel_rfl
theorem siE_bytes : siE.bytes = 8 := by kernel_rfl
theorem siK (n : Nat) (h : 2 ≤ n) : Lib.swapperK n siE 11 = 5 := by
  unfold Lib.swapperK
  rw [siE_ptr, siE_bytes]
  rw [if_neg (by simp; omega), if_neg (by simp; omega)]
  rfl

/-- The closure's comparison. -/
theorem less_any (W : World) (bx blk n c i j : Nat) (x y : Int) (hb : W.cell? ⟨bx, 0, none⟩ = some (.slice (some ⟨blk, 0, none⟩) n c)) (hi : i < n) (hj : j < n) (hx : W.cell? ⟨blk, i, none⟩ = some (.int .u64 x)) (hy : W.cell? ⟨blk, j, none⟩ = some (.int .u64 y)) :
    Calls Tryz.prog 44 #[.int .i64 i, .int .i64 j, ptr bx] W fun e w' => e = .returned (.bool (decide (x < y))) ∧ ∃ q, w' = W.drewN q := by
  have hi2 : (i : Int) < (n : Int) := by omega
  have hj2 : (j : Int) < (n : Int) := by omega
  go_enter Tryz.func44, Tryz.ntmps44
  go_wp2_with fail
  go_quiet (fail)
  go_wp2_with fail
  go_ret
  exact ⟨rfl, _, rfl⟩

theorem sort_tiny (W : World) (p : Option Addr) (n c : Nat) (h1 : n ≤ 1) (lf : Fn) (lb : Array Value) :
    Calls Tryz.prog 43 #[.iface 31 (.slice p n c), .func lf #[] lb] W fun e w' => e = .returned (.tuple #[]) ∧ Tch [] W w' := by
  have hK : Lib.swapperK n siE 11 = n + 1 := by
    rcases Nat.eq_zero_or_pos n with h | h
    · subst h; simp [Lib.swapperK]
    · obtain rfl : n = 1 := by omega
      simp [Lib.swapperK]
  have hS := Any.sort_Slice_tiny Tryz.laysGg6 31 26 siT siE siT_eq (by kernel_rfl) (by kernel_rfl) siE_eq 11 (fun _ => by kernel_rfl) p n c h1 (58 + n) (by
    rw [hK]
    rcases Nat.eq_zero_or_pos n with h | h
    · subst h; kernel_rfl
    · obtain rfl : n = 1 := by omega
      kernel_rfl) lf #[] lb W
  refine hS.mono ?_
  rintro e w' ⟨rfl, os, rfl⟩
  exact ⟨rfl, grow_tch W 0 os⟩

/-- Numbers in order. -/
def upS (l : List Int) : Prop := l.Pairwise (fun a b => a ≤ b)
def ltI (a b : Int) : Bool := decide (a < b)
theorem swo_ltI : SWO ltI := ⟨fun x => by simp [ltI], fun x y z h1 h2 => by simp only [ltI, decide_eq_true_eq] at *; omega, fun x y z h1 h2 => by simp only [ltI, decide_eq_false_iff_not] at *; omega⟩

theorem sort_many (W : World) (base blk n c bx : Nat) (l : List Int) (hrow : W.ownsRow base 26 1 (.slice (some ⟨blk, 0, none⟩) n c) n (uV l)) (hb : W.cell? ⟨bx, 0, none⟩ = some (.slice (some ⟨blk, 0, none⟩) n c)) (hne : bx ≠ blk) (h2 : 2 ≤ n) (h6 : n ≤ 10000000) :
    Calls Tryz.prog 43 #[.iface 31 (.slice (some ⟨blk, 0, none⟩) n c), .func (.func 44) #[] #[ptr bx]] W fun e w' => e = .returned (.tuple #[]) ∧ ∃ l', l'.Perm l ∧ upS l' ∧ w'.ownsRow base 26 1 (.slice (some ⟨blk, 0, none⟩) n c) n (uV l') ∧ Tch [blk] W w' := by
  have hln : l.length = n := by have := hrow.1; unfold uV at this; simp at this; omega
  have hdn : l.toArray.size = n := by simp [hln]
  have hget : ∀ j, j < n → (l.toArray[j]! : Int) = l.getD j 0 := fun j hj => by
    rw [getElem!_pos _ j (by simp; omega)]
    simp [List.getD, List.getElem?_eq_getElem (show j < l.length by omega)]
  have hH : Holds (Value.int .u64) W blk 0 l.toArray := fun j hj => by
    rw [hdn] at hj
    refine own_holds hrow ?_
    rw [hget j hj]
    unfold uV
    simp [List.getD, List.getElem?_eq_getElem (show j < l.length by omega)]
  have hblk : blk < W.heap.size := World.block_lt_of_cell? W _ (hH 0 (by omega)).1
  have hbxl : bx < W.heap.size := World.block_lt_of_cell? W _ hb
  have hl : LessReads Tryz.prog 44 #[ptr bx] (Value.int .u64) ltI blk 0 l.toArray.size W := by
    intro m os dk hs' i j hi hj
    have e : sortWorld (Value.int .u64) W blk 0 m dk os = putRow (Value.int .u64) (grow (Sort.ahead W m) os) blk 0 dk := by
      unfold sortWorld; rw [putRow_grow _ (Sort.ahead W m) _ blk 0 _ hblk]
    have hHg : Holds (Value.int .u64) (grow (Sort.ahead W m) os) blk 0 l.toArray := holds_grow _ _ _ blk 0 l.toArray hblk (holds_ahead _ _ _ _ _ _ hH)
    have hcell : ∀ t, t < n → (sortWorld (Value.int .u64) W blk 0 m dk os).cell? ⟨blk, t, none⟩ = some (.int .u64 dk[t]!) := fun t ht => by
      rw [e]
      have := cell?_putRow (Value.int .u64) (grow (Sort.ahead W m) os) blk 0 l.toArray dk hHg hs' t (by omega)
      rw [Nat.zero_add] at this
      exact this
    have hbx := (sw_tch (Value.int .u64) W blk 0 m dk os).cell (p := ⟨bx, 0, none⟩) hbxl (by simpa using hne)
    exact less_any _ bx blk n c i j _ _ (by rw [hbx]; exact hb) (by omega) (by omega) (hcell i (by omega)) (hcell j (by omega))
  have hS := Any.sort_Slice_sorted Tryz.laysGg6 31 26 siT siE siT_eq (by kernel_rfl) (by kernel_rfl) siE_eq 11 (fun _ => by kernel_rfl) (by kernel_rfl) (fun _ => by kernel_rfl) (Value.int .u64) (fun _ => rfl) ltI swo_ltI 44 #[ptr bx] (enters_of Tryz.func44 (by kernel_rfl) rfl) blk 0 c l.toArray (by omega) (by omega)
    62 (by rw [hdn, siK _ h2]; kernel_rfl) true
    (fun args W => run_callFunc_extern Tryz.func62 (by kernel_rfl) (by kernel_rfl) (by kernel_rfl) (e := Extern.ReflectliteSwapper.swap true) (by kernel_rfl) args W) W hl hH hblk
  rw [hdn] at hS
  refine hS.mono ?_
  rintro e w' ⟨rfl, d', q, os, hP, hSo, rfl⟩
  refine ⟨rfl, d'.toList, ?_, ?_, ?_, ?_⟩
  · obtain ⟨hsz, -, hperm⟩ := hP
    have e1 : d'.extract 0 n = d' := by rw [← hdn, ← hsz]; exact Array.extract_size
    have e2 : l.toArray.extract 0 n = l.toArray := by rw [← hdn]; exact Array.extract_size
    rw [e1, e2] at hperm
    exact hperm
  · have hsz := hP.1
    unfold upS
    rw [List.pairwise_iff_getElem]
    intro i j hi hj hij
    have hi' : i < d'.size := by simpa using hi
    have hj' : j < d'.size := by simpa using hj
    have := hSo i j (Nat.zero_le _) hij (by omega)
    rw [getElem!_pos d' j hj', getElem!_pos d' i hi'] at this
    simp only [ltI, decide_eq_false_iff_not] at this
    simp only [Array.getElem_toList]
    omega
  · have hsz : d'.size = n := by rw [hP.1, hdn]
    obtain ⟨hr1, ⟨h1, -⟩ | ⟨g, cap, cur, h1, hbb, hc, hn, hcm, hcs, ht⟩⟩ := hrow
    · simp at h1
    · simp only [Value.slice.injEq, Option.some.injEq, Addr.mk.injEq, true_and, and_true] at h1
      obtain ⟨rfl, rfl⟩ := h1
      refine ⟨by unfold uV; simp [hsz], .inr ⟨blk, c, putCells (Value.int .u64) 0 d' cur, rfl, hbb, ?_, hn, hcm, by unfold putCells; simpa using hcs, ?_⟩⟩
      · show ((W.heap.modify blk _) ++ os)[blk]? = _
        rw [Array.getElem?_append_left (by rw [Array.size_modify]; exact hblk), Array.getElem?_modify, if_pos rfl, hc]
        rfl
      · unfold putCells uV
        apply List.ext_getElem?
        intro j
        rw [Nat.mul_one, List.getElem?_take]
        by_cases hj : j < n
        · rw [if_pos hj]
          have hjc : j < cur.size := by omega
          simp only [Array.toList_mapIdx, List.getElem?_mapIdx, List.getElem?_map, Array.getElem?_toList]
          rw [Array.getElem?_eq_getElem hjc, Array.getElem?_eq_getElem (show j < d'.size by omega)]
          simp only [Option.map_some]
          rw [if_pos (by omega), Nat.sub_zero, getElem!_pos d' j (by omega)]
        · rw [if_neg hj, List.getElem?_eq_none (by rw [List.length_map, Array.length_toList]; omega)]
  · exact sw_tch (Value.int .u64) W blk 0 q d' os

end Go.Proofs.YtcolffccbmpndaaGreatDoor
