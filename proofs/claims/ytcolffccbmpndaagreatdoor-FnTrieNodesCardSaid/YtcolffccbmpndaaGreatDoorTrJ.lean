/- (*Trie).Get, (*Trie).IDs, (*Trie).Nodes. -/
import Derived.Test.YtcolffccbmpndaaGreatDoorTrI
namespace Go.Proofs.YtcolffccbmpndaaGreatDoor
open Go.RowKit Go.Deep
set_option maxRecDepth 100000

theorem TrAt.cell {w : World} {base tb root : Nat} {N : Net} (h : TrAt w base tb root N) : w.cell? ⟨tb, 0, none⟩ = some (ptr root) := by rw [cell_of_row w tb 0 _ _ _ h.top]; rfl

theorem Get_any (w : World) (base tb root : Nat) (N : Net) (hA : TrAt w base tb root N) (key : List Int) (a : Option Addr) (c : Nat) (hk : By w key a c) (hl : key.length ≤ 1000000) :
    Calls Tryz.prog 32 #[ptr tb, .slice a key.length c] w (Got (Found (cont N) [] key) w) := by
  have hct := hA.cell
  obtain ⟨r0, hr0, hrb⟩ := hA.tm.root
  have HG := Lib.hid (get_any key w base root N hA.tm [] r0 hr0 (ptr tb) a c hk hl)
  rw [hrb] at HG
  clear hA hr0 hrb hk hl
  go_enter Tryz.func32, Tryz.ntmps32
  go_wp2_with fail
  refine HG.out.mono ?_
  rintro e w1 ⟨m, L, rfl, k1, k2, k3, k4⟩
  have HE : Hid (RMap .u64 w1 m L ∧ (∀ x, x ∈ keysL L ↔ Found (cont N) [] key x) ∧ Tch [] w w1 ∧ w.heap.size ≤ m) := Lib.hid ⟨k1, k2, k3, k4⟩
  clear k1 k2 k3 k4
  go_wp2_with fail
  go_ret
  exact ⟨m, L, rfl, HE.out.1, HE.out.2.1, HE.out.2.2.1, HE.out.2.2.2⟩

theorem Nodes_any (w : World) (base tb root : Nat) (N : Net) (hA : TrAt w base tb root N) (PS : List Path) (hn : PS.Nodup) (hm : ∀ p, p ∈ PS ↔ cont N p ≠ none) (hp : PS.length ≤ 100000000) :
    Calls Tryz.prog 33 #[ptr tb] w fun e w' => e = .returned (.int .i64 (PS.length : Int)) ∧ Tch [] w w' := by
  have hct := hA.cell
  obtain ⟨r0, hr0, hrb⟩ := hA.tm.root
  have HG := Lib.hid (num_any _ w base root N hA.tm PS hn hm hp [] r0 hr0 (Nat.le_refl _))
  rw [hrb, cntP_root] at HG
  clear hA hr0 hrb hn hm hp
  go_enter Tryz.func33, Tryz.ntmps33
  go_wp2_with fail
  refine HG.out.mono ?_
  rintro e w1 ⟨rfl, t⟩
  have HT := Lib.hid t
  clear t
  go_wp2_with fail
  go_ret
  exact ⟨rfl, HT.out⟩

theorem nodup_sub {S : List Int} : ∀ {l : List Int}, l.Nodup → (∀ x ∈ l, x ∈ S) → l.length ≤ S.length := by
  intro l
  induction l generalizing S with
  | nil => intro _ _; simp
  | cons x t ih =>
    intro hn hs
    simp only [List.nodup_cons] at hn
    have hx := hs x (by simp)
    have := ih (S := S.erase x) hn.2 (fun y hy => (List.mem_erase_of_ne (fun e => hn.1 (by rw [← e]; exact hy))).2 (hs y (by simp [hy])))
    rw [List.length_erase_of_mem hx] at this
    have := List.length_pos_of_mem hx
    simp only [List.length_cons]
    omega

/-- What IDs tells. -/
def IdsEnd (G : Int → Prop) (w : World) (e : Ending) (w' : World) : Prop :=
  ∃ a n c l, e = .returned (.slice a n c) ∧ w'.ownsRow w.heap.size 26 1 (.slice a n c) n (uV l) ∧ upS l ∧ l.Nodup ∧ (∀ x, x ∈ l ↔ G x) ∧ Tch [] w w'

/-- Between two numbers. -/
structure Coll (w wr : World) (L : List (Int × Value)) (left : List Int) (ri m bx : Nat) (a : Option Addr) (n c : Nat) (l : List Int) : Prop where
  it : RIter .u64 wr ri m L left
  box : wr.heap[bx]? = some (.cells #[.slice a n c] 31 (0, 0))
  row : wr.ownsRow w.heap.size 26 1 (.slice a n c) n (uV l)
  mem : ∀ y, y ∈ l ↔ y ∈ keysL L ∧ y ∉ left
  nd : l.Nodup
  t : Tch [] w wr

theorem Coll.n {w wr : World} {L : List (Int × Value)} {left : List Int} {ri m bx : Nat} {a : Option Addr} {n c : Nat} {l : List Int} (h : Coll w wr L left ri m bx a n c l) : l.length = n ∧ n ≤ L.length := by
  have h1 := h.row.1
  unfold uV at h1
  rw [List.length_map, Nat.mul_one] at h1
  have h2 := nodup_sub (S := keysL L) h.nd (fun x hx => ((h.mem x).1 hx).1)
  unfold keysL at h2
  rw [List.length_map] at h2
  exact ⟨h1, by omega⟩

/-- One number more. -/
theorem Coll.step {w wr w6 w7 : World} {L : List (Int × Value)} {left : List Int} {ri m bx : Nat} {a : Option Addr} {n c g7 c7 : Nat} {l : List Int} {y : Int} (h : Coll w wr L left ri m bx a n c l) (hbx : w.heap.size ≤ bx) (hri : w.heap.size ≤ ri) (hk : y ∈ left) (hyk : y ∈ keysL L)
    (hit : RIter .u64 w6 ri m L (left.filter (· != y))) (t6 : Tch [ri] wr w6) (q1 : w7.ownsRow w.heap.size 26 1 (.slice (some ⟨g7, 0, none⟩) (n + 1) c7) (n + 1) (uV l ++ [.int .u64 y])) (q2 : Tch (Value.slice a n c).ownBlock.toList w6 w7) :
    Coll w (w7.setCell ⟨bx, 0, none⟩ (.slice (some ⟨g7, 0, none⟩) (n + 1) c7)) L (left.filter (· != y)) ri m bx (some ⟨g7, 0, none⟩) (n + 1) c7 (l ++ [y]) ∧ w7.cell? ⟨bx, 0, none⟩ = some (.slice a n c) ∧ w7.frozen? ⟨bx, 0, none⟩ = false := by
  have hib : ri ≠ bx := fun e => by
    obtain ⟨es, clk, since, seen, c0, -, -, -, h4, -⟩ := h.it
    rw [e, h.box] at h4; simp at h4
  have hmb : m ≠ bx := fun e => by
    obtain ⟨es, clk, h1, -⟩ := h.it.map
    rw [e, h.box] at h1; simp at h1
  have hrow6 := t6.own h.row (fun g hg hm => by
    obtain ⟨cur, hc⟩ := ownsRow_block h.row hg
    obtain ⟨es, clk, since, seen, c0, -, -, -, h4, -⟩ := h.it
    rw [List.mem_singleton.1 hm, h4] at hc; simp at hc)
  have hbox6 := t6.obj h.box (by simpa using fun e => hib e.symm)
  have hbr : bx ∉ (Value.slice a n c).ownBlock.toList := fun hm => by
    obtain ⟨cur, hc⟩ := ownsRow_block hrow6 (g := bx) (by simpa [Option.mem_toList] using hm)
    rw [hbox6] at hc; simp at hc
  have hirow : ∀ k, (∀ cur, w6.heap[k]? ≠ some (.cells cur 26 (0, 0))) → k ∉ (Value.slice a n c).ownBlock.toList := fun k hk hm => by
    obtain ⟨cur, hc⟩ := ownsRow_block hrow6 (g := k) (by simpa [Option.mem_toList] using hm)
    exact hk cur hc
  have hbox7 := q2.obj hbox6 hbr
  have hit7 := hit.tch q2 (hirow ri (fun cur e => by
    obtain ⟨es, clk, since, seen, c0, -, -, -, h4, -⟩ := hit
    rw [e] at h4; simp at h4)) (hirow m (fun cur e => by
    obtain ⟨es, clk, h1, -⟩ := hit.map
    rw [e] at h1; simp at h1))
  have ts : Tch [bx] w7 (w7.setCell ⟨bx, 0, none⟩ (.slice (some ⟨g7, 0, none⟩) (n + 1) c7)) := (Tch.refl _ _).setCell (p := ⟨bx, 0, none⟩) (fun _ => by simp) _
  have T6 : Tch [] w w6 := h.t.then t6 (fun i hi hm => by have := List.mem_singleton.1 hm; omega)
  have T7 : Tch [] w w7 := T6.then q2 (fun i hi hm => by
    obtain ⟨h1, -⟩ := hrow6.lt i (by simpa [Option.mem_toList] using hm)
    omega)
  refine ⟨⟨hit7.tch ts (by simpa using hib) (by simpa using hmb), ?_, ?_, fun z => ?_, ?_, T7.then ts (fun i hi hm => by have := List.mem_singleton.1 hm; omega)⟩, by rw [cell_of_row w7 bx 0 _ _ _ hbox7]; rfl, frozen_of hbox7⟩
  · rw [heap_setCell_same _ _ _ _ _ _ hbox7]; simp
  · have := ts.own q1 (fun g hg hm => by
      obtain ⟨cur, hc⟩ := ownsRow_block q1 hg
      rw [List.mem_singleton.1 hm, hbox7] at hc; simp at hc)
    unfold uV at this ⊢
    rw [List.map_append]
    exact this
  · rw [List.mem_append, List.mem_singleton, h.mem z]
    by_cases e : z = y
    · subst e; simp [hyk]
    · simp [e]
  · rw [List.nodup_append]
    exact ⟨h.nd, by simp, fun x hx z hz e => by rw [List.mem_singleton] at hz; subst hz; subst e; exact ((h.mem _).1 hx).2 hk⟩

set_option maxHeartbeats 4000000 in
theorem IDs_any (w : World) (base tb root : Nat) (N : Net) (hA : TrAt w base tb root N) (key : List Int) (a : Option Addr) (c : Nat) (hk : By w key a c) (hl : key.length ≤ 1000000) (S : List Int) (hS : ∀ x, Found (cont N) [] key x → x ∈ S) (hSl : S.length ≤ 1000000) :
    Calls Tryz.prog 31 #[ptr tb, .slice a key.length c] w (IdsEnd (Found (cont N) [] key) w) := by
  have HG := Lib.hid (fun w' (t : Tch [] w w') => Get_any w' base tb root N (hA.tch t) key a c (hk.tch t) hl)
  have HS := Lib.hid hS
  have HSL := Lib.hid hSl
  have HT0 := Lib.hid ((Tch.refl [] w).alloc (.cells #[.slice none 0 0] 31))
  have HB0 := Lib.hid (heap_alloc_new w (.cells #[.slice none 0 0] 31))
  clear hA hk hl hS hSl
  go_enter Tryz.func31, Tryz.ntmps31
  go_wp2_with fail
  refine (HG.out _ HT0.out).mono ?_
  rintro e w1 ⟨m, L, rfl, k1, k2, k3, k4⟩
  have HK := Lib.hid k2
  have HT1 := Lib.hid k3
  have HR := Lib.hid k1
  have HLL : Hid (L.length ≤ 1000000) := Lib.hid (by
    have := nodup_sub (S := S) k1.nodup (fun x hx => HS.out x ((k2 x).1 hx))
    rw [List.length_map] at this
    have := HSL.out
    omega)
  have hrg : ∃ vv w', (Instr.range 59 (.map (some m))).run Tryz.prog w1 = .ok vv w' ∧ (vv = .pointer (some ⟨w1.heap.size, 0, none⟩) ∧ RIter .u64 w' w1.heap.size m L (L.map Prod.fst) ∧ Tch [] w1 w') := by
    obtain ⟨w', a1, a2, a3, -⟩ := k1.range (P := Tryz.prog) (t := 59) (k := 26) (e := 101) Tryz.underlying59
    exact ⟨_, w', a1, rfl, a2, a3⟩
  have HRG := Lib.hid hrg
  clear hrg k1 k2 k3 k4 HG
  go_wp2_with (at_range; refine wpList_range_run rfl _ 59 rfl _ rfl _ HRG.out ?_; rintro vv wi ⟨rfl, hit, ht⟩; go_frame)
  have HC0 : Hid (Coll w wi L (L.map Prod.fst) w1.heap.size m w.heap.size none 0 0 []) := Lib.hid ⟨hit, ht.obj (HT1.out.obj HB0.out (by simp)) (by simp), World.ownsRow_nil _ _ _ _, fun y => by unfold keysL; simp, by simp, (HT0.out.trans HT1.out).trans ht⟩
  have HSZ : Hid (w.heap.size ≤ w1.heap.size) := Lib.hid (Nat.le_trans HT0.out.size HT1.out.size)
  clear hit ht
  go_loopg [] L.length (fun nn wr => ∃ (left l : List Int) (a' : Option Addr) (n' c' : Nat), nn = left.length ∧ Hid (Coll w wr L left w1.heap.size m w.heap.size a' n' c' l))
  case atStart => exact ⟨L.map Prod.fst, [], none, 0, 0, by simp, HC0.out⟩
  case round =>
    obtain ⟨left, l, a', n', c', rfl, HZ⟩ := hrel
    rename World => wr
    have hrb := HZ.out.it.ne_map
    have hn6 : n' ≤ 1000000 := by have := HZ.out.n; have := HLL.out; omega
    rcases HZ.out.it.next (P := Tryz.prog) hrb 0 with ⟨hll, hrun⟩ | ⟨y, vv, w6, hky, hat, hrun, hit6, ht6, hsz6, hent⟩
    · have hbc : wr.cell? ⟨w.heap.size, 0, none⟩ = some (.slice a' n' c') := by rw [cell_of_row wr _ 0 _ _ _ HZ.out.box]; rfl
      have HMEM : Hid (∀ x, x ∈ l ↔ Found (cont N) [] key x) := Lib.hid (fun x => by rw [HZ.out.mem x, hll, ← HK.out x]; simp)
      have hln := HZ.out.n.1
      by_cases h2 : 2 ≤ n'
      · obtain ⟨g, cap, e1, hcap, hgl⟩ := ownsRow_value HZ.out.row (by omega)
        simp only [Value.slice.injEq, true_and] at e1
        obtain ⟨rfl, rfl⟩ := e1
        have hne : w.heap.size ≠ g := fun e => by
          obtain ⟨cur, hc⟩ := ownsRow_block HZ.out.row (g := g) rfl
          rw [← e, HZ.out.box] at hc; simp at hc
        have HSO := Lib.hid (sort_many wr w.heap.size g n' c' w.heap.size l HZ.out.row hbc hne h2 (by omega))
        have hbl : w.heap.size < wr.heap.size := lt_of_obj HZ.out.box
        have HBX : Hid (∀ w', Tch [g] wr w' → w'.cell? ⟨w.heap.size, 0, none⟩ = some (.slice (some ⟨g, 0, none⟩) n' c')) := Lib.hid (fun w' t => by rw [t.cell (p := ⟨w.heap.size, 0, none⟩) hbl (by simpa using hne)]; exact hbc)
        have HFIN : Hid (∀ w' l', l'.Perm l → upS l' → w'.ownsRow w.heap.size 26 1 (.slice (some ⟨g, 0, none⟩) n' c') n' (uV l') → Tch [g] wr w' → IdsEnd (Found (cont N) [] key) w (.returned (.slice (some ⟨g, 0, none⟩) n' c')) w') := Lib.hid (fun w' l' hp hu hr t => ⟨_, _, _, l', rfl, hr, hu, hp.nodup_iff.2 HZ.out.nd, fun x => by rw [hp.mem_iff, HMEM.out x], HZ.out.t.then t (fun i hi hm => by
          have := (HZ.out.row.lt g rfl).1
          have := List.mem_singleton.1 hm
          omega)⟩)
        clear hll hrb hne hgl hcap hbl h2 hln hn6 HZ
        go_wp2_with fail
        refine HSO.out.mono ?_
        rintro e w2 ⟨rfl, l', q1, q2, q3, q4⟩
        have hb2 := HBX.out w2 q4
        have HE := Lib.hid (HFIN.out w2 l' q1 q2 q3 q4)
        clear q1 q2 q3 q4 hbc
        go_wp2_with fail
        go_ret
        exact HE.out
      · have HSO := Lib.hid (sort_tiny wr a' n' c' (by omega) (.func 44) #[ptr w.heap.size])
        have HFIN : Hid (∀ w', Tch [] wr w' → w'.cell? ⟨w.heap.size, 0, none⟩ = some (.slice a' n' c') ∧ IdsEnd (Found (cont N) [] key) w (.returned (.slice a' n' c')) w') := Lib.hid (fun w' t => ⟨cell_tch hbc t, _, _, _, l, rfl, t.own HZ.out.row (by simp), by
          unfold upS
          match l, hln with
          | [], _ => exact List.Pairwise.nil
          | [x], _ => exact List.pairwise_singleton _ _
          | x :: y :: r, h => simp at h; omega, HZ.out.nd, HMEM.out, HZ.out.t.trans t⟩)
        clear hll hrb h2 hln hn6 HZ
        go_wp2_with fail
        refine HSO.out.mono ?_
        rintro e w2 ⟨rfl, t⟩
        obtain ⟨hb2, hE⟩ := HFIN.out w2 t
        have HE := Lib.hid hE
        clear t hE hbc
        go_wp2_with fail
        go_ret
        exact HE.out
    · have hyk : y ∈ keysL L := by
        unfold at? at hat
        cases hf : L.find? (fun p => p.1 == y) with
        | none => rw [hf] at hat; simp at hat
        | some p => exact List.mem_map.2 ⟨p, List.mem_of_find?_eq_some hf, by simpa using List.find?_some hf⟩
      have hll : (left.filter (· != y)).length < left.length := by
        rw [← Nat.not_le]
        intro hge
        have := List.filter_sublist.eq_of_length_le hge
        have hy2 : y ∈ left.filter (· != y) := by rw [this]; exact hky
        simp at hy2
      have hbx6 : w6.heap[w.heap.size]? = some (.cells #[.slice a' n' c'] 31 (0, 0)) := ht6.obj HZ.out.box (by
        intro hm
        have e := List.mem_singleton.1 hm
        obtain ⟨es, clk, since, seen, c0, -, -, -, h4, -⟩ := HZ.out.it
        rw [← e, HZ.out.box] at h4; simp at h4)
      have hbc : w6.cell? ⟨w.heap.size, 0, none⟩ = some (.slice a' n' c') := by rw [cell_of_row w6 _ 0 _ _ _ hbx6]; rfl
      have hrow6 := ht6.own HZ.out.row (fun g hg hm => by
        obtain ⟨cur, hc⟩ := ownsRow_block HZ.out.row hg
        obtain ⟨es, clk, since, seen, c0, -, -, -, h4, -⟩ := HZ.out.it
        rw [List.mem_singleton.1 hm, h4] at hc; simp at hc)
      have HRA := Lib.hid (row_app (.int .u64 y) hrow6 (by have := HSZ.out; have := HZ.out.t.size; have := ht6.size; omega) (by omega) rfl)
      have HST := Lib.hid (fun w7 g7 c7 q1 q2 => HZ.out.step (w7 := w7) (g7 := g7) (c7 := c7) (Nat.le_refl _) HSZ.out hky hyk hit6 ht6 q1 q2)
      have HLL2 := Lib.hid hll
      clear hll hyk hky hat hit6 ht6 hsz6 hbx6 hrow6 hrb
      go_wp2_with (at_builtin; refine wpList_append_run rfl (.tmp 15) (.tmp 17) 31 rfl (.slice a' n' c') (.slice (some ⟨w6.heap.size, 0, none⟩) 1 1) (by simp [Act.eval]) (by simp [Act.eval]) _ HRA.out ?_; rintro vv w7 ⟨g7, c7, rfl, q1, q2, q3⟩; obtain ⟨s1, s2, s3⟩ := HST.out w7 g7 c7 q1 q2; have HS1 := Lib.hid s1; clear q1 q2 q3 s1)
      go_roundg (left.filter (· != y)).length
      case rel => exact ⟨left.filter (· != y), _, _, _, _, rfl, HS1.out⟩
      case measure => exact HLL2.out

end Go.Proofs.YtcolffccbmpndaaGreatDoor
