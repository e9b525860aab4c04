/- What parseIgnoreBytes reads of the library; the parse, plain. -/
import Derived.Test.YtcolffccbmpndaaGreatDoorIgZ
import Derived.Test.YtcolffccbmpndaaGreatDoorShelf
import Derived.Lib.TrimAscii
namespace Go.Proofs.YtcolffccbmpndaaGreatDoor
open Go.RowKit Go.Deep
set_option maxRecDepth 100000

theorem tch_of_below {w w' : World} (h : Below w.heap.size w w') : Tch [] w w' := ⟨h.os, h.output, h.size, fun k hk _ => h.block k hk⟩
theorem var_tch {P : Program} {w w' : World} {name : String} {v : Array Value} (h : w.var? P name = some v) (t : Tch [] w w') : w'.var? P name = some v := by
  unfold World.var? at h ⊢
  cases hg : P.globalNamed name with
  | none => rw [hg] at h; simp at h
  | some g =>
    rw [hg] at h
    simp only [Option.bind_some] at h ⊢
    cases ho : w.heap[g]? with
    | none => rw [ho] at h; simp at h
    | some o => rw [t.obj ho (by simp)]; rw [ho] at h; exact h
theorem cell_tch {w w' : World} {p : Addr} {v : Value} (h : w.cell? p = some v) (t : Tch [] w w') : w'.cell? p = some v := by
  rw [t.cell (World.block_lt_of_cell? w _ h) (by simp)]
  exact h

/-- The library's variables, as they are laid. -/
structure Tabs (w : World) : Prop where
  sp : Lib.TabIs Tryz.prog w "strings.asciiSpace" .u8 Lib.asciiSpaceTab
  u8 : Lib.Utf8Tabs 4 5 w
  ws : Lib.WhiteTab 1 w
  e1 : ∃ t p, w.var? Tryz.prog "strconv.ErrSyntax" = some #[.iface t p]
  e2 : ∃ t p, w.var? Tryz.prog "strconv.ErrRange" = some #[.iface t p]

theorem Tabs.tch {w w' : World} (h : Tabs w) (t : Tch [] w w') : Tabs w' := by
  obtain ⟨t1, p1, q1⟩ := h.e1
  obtain ⟨t2, p2, q2⟩ := h.e2
  obtain ⟨T, oT, R, oR, h1, h2, h3, h4, h5⟩ := h.ws
  exact ⟨var_tch h.sp t, ⟨fun c hc => cell_tch (h.u8.1 c hc) t, fun i hi => ⟨cell_tch (h.u8.2 i hi).1 t, cell_tch (h.u8.2 i hi).2 t⟩⟩, ⟨T, oT, R, oR, cell_tch h1 t, cell_tch h2 t, cell_tch h3 t, cell_tch h4 t, fun i hi => cell_tch (h5 i hi) t⟩, ⟨t1, p1, var_tch q1 t⟩, ⟨t2, p2, var_tch q2 t⟩⟩

/-- strings.TrimSpace. -/
def trimS (l : List UInt8) : List UInt8 := Lib.trimSpaceD l
theorem trimRightD_le : ∀ (f : Nat) (l : List UInt8), (Lib.trimRightD f l).length ≤ l.length
  | 0, l => Nat.le_refl _
  | f + 1, l => by
    unfold Lib.trimRightD
    split
    · simp
    · split
      · exact Nat.le_trans (trimRightD_le f _) (by rw [List.length_take]; omega)
      · exact Nat.le_refl _
theorem trimS_le (l : List UInt8) : (trimS l).length ≤ l.length := Nat.le_trans (trimRightD_le _ _) (Lib.trimLeftD_le _ _)
theorem trim_any (l : List UInt8) (w : World) (hl : l.length ≤ 10000000) (ht : Tabs w) : Calls Tryz.prog 56 #[.string (bs l)] w fun e w' => e = .returned (.string (bs (trimS l))) ∧ Tch [] w w' := by
  refine (Tryz.strings_TrimSpace_any (bs l) w (by rw [bs_size]; omega) ht.sp ht.u8 ht.ws).mono ?_
  rintro e w' ⟨h1, h2⟩
  exact ⟨h1, tch_of_below h2⟩

/-- strconv.Atoi. -/
def atoiO (l : List UInt8) : Option Int := match Lib.atoiAll l with
  | .ok v => some v
  | _ => none
theorem atoi_any (l : List UInt8) (w : World) (hl : l.length ≤ 10000000) (ht : Tabs w) : Calls Tryz.prog 57 #[.string (bs l)] w fun e w' => ∃ n err, e = .returned (.tuple #[.int .i64 n, err]) ∧ ((atoiO l = some n ∧ err = .nilIface) ∨ (atoiO l = none ∧ ∃ t p, err = .iface t p)) ∧ Tch [] w w' := by
  have hd : (bs l).data.toList = l := bs_data l
  cases h : Lib.atoiAll l
  case ok v =>
    refine (Tryz.strconv_Atoi_ok (bs l) (by rw [bs_size]; omega) v (by rw [hd]; exact h) w).mono ?_
    rintro e w' ⟨h1, h2⟩
    refine ⟨v, _, h1, .inl ⟨by unfold atoiO; rw [h], rfl⟩, ?_⟩
    rcases h2 with rfl | ⟨t, rfl⟩
    · exact Tch.refl _ _
    · exact tch_of_below ⟨rfl, rfl, rfl, by rw [Lib.bytesWorld_size]; omega, fun j hj => Lib.bytesWorld_at_old w _ t j hj⟩
  case range =>
    obtain ⟨t, p, hv⟩ := ht.e2
    refine (Tryz.strconv_Atoi_range_var (bs l) (by rw [bs_size]; omega) (by rw [hd]; exact h) t p w hv).mono ?_
    rintro e w' ⟨N, h1, -, -, h4⟩
    exact ⟨_, _, h1, .inr ⟨by unfold atoiO; rw [h], _, _, rfl⟩, tch_of_below h4⟩
  obtain ⟨t, p, hv⟩ := ht.e1
  refine (Tryz.strconv_Atoi_syntax_var (bs l) (by rw [bs_size]; omega) (by rw [hd, h]) t p w hv).mono ?_
  rintro e w' ⟨N, h1, -, -, h4⟩
  exact ⟨_, _, h1, .inr ⟨by unfold atoiO; rw [h], _, _, rfl⟩, tch_of_below h4⟩

/-- One number, or two. -/
def itemP (p : List UInt8) : Option (Int × Option Int) :=
  match splitB 45 (trimS p) with
  | [a] => (atoiO (trimS a)).map (fun s => (s, none))
  | [a, b] => (atoiO (trimS b)).bind (fun e => (atoiO (trimS a)).map (fun s => (s, some e)))
  | _ => none
/-- How many places there are behind an item. -/
def upTo (n : Nat) (s : Nat) (e : Option Nat) : Nat := max n (max (s + 1) (match e with | none => 0 | some t => t + 1))
def setF (f : Nat → Bool) (s : Nat) (e : Option Nat) : Nat → Bool := fun i => f i || (decide (s ≤ i) && decide (i ≤ e.getD s))
/-- The places that items tell, one after the other. -/
def runP : Nat × (Nat → Bool) → List (List UInt8) → Option (Nat × (Nat → Bool))
  | x, [] => some x
  | x, p :: ps => match itemP p with
    | none => none
    | some (s, e) => runP (upTo x.1 s.toNat (e.map Int.toNat), setF x.2 s.toNat (e.map Int.toNat)) ps
def parseP (l : List UInt8) : Option (Nat × (Nat → Bool)) := if l = [] then some (0, fun _ => false) else runP (0, fun _ => false) (splitB 44 (trimS l))
/-- All numbers are small. -/
def smallI (p : List UInt8) : Prop := ∀ s e, itemP p = some (s, e) → 0 ≤ s ∧ s ≤ 9999 ∧ ∀ t, e = some t → 0 ≤ t ∧ t ≤ 9999

/-- The places as a row. -/
def bl (n : Nat) (f : Nat → Bool) : List Value := (List.range n).map fun i => .bool (f i)
theorem bl_succ (n : Nat) (f : Nat → Bool) : bl (n + 1) f = bl n f ++ [.bool (f n)] := by unfold bl; rw [List.range_succ, List.map_append]; rfl
theorem bl_set (n : Nat) (f : Nat → Bool) (i : Nat) : (bl n f).set i (.bool true) = bl n (fun j => f j || decide (j = i)) := by
  apply List.ext_getElem?
  intro j
  unfold bl
  rw [List.getElem?_set]
  by_cases e : i = j
  · subst e
    by_cases hi : i < n
    · simp [hi]
    · simp [hi]
  · have e2 : ¬ j = i := fun h => e h.symm
    by_cases hj : j < n
    · simp [e, e2, hj]
    · simp [e, hj]
theorem bl_congr {n : Nat} {f g : Nat → Bool} (h : ∀ i, i < n → f i = g i) : bl n f = bl n g := by
  unfold bl
  apply List.map_congr_left
  intro i hi
  rw [h i (List.mem_range.1 hi)]

/-- errors.New gives an error. -/
theorem errNew_any (s : ByteArray) (w : World) : Calls Tryz.prog 48 #[.string s] w fun e w' => ∃ t p, e = .returned (.iface t p) ∧ Tch [] w w' := by
  have HT := Lib.hid (fun o => (Tch.refl [] w).alloc o)
  go_enter Tryz.func48, Tryz.ntmps48
  go_wp2_with fail
  go_ret
  exact ⟨_, _, rfl, HT.out _⟩

end Go.Proofs.YtcolffccbmpndaaGreatDoor
