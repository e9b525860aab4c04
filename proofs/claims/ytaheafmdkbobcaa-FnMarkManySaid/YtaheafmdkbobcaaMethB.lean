/- More methods of a water mark. -/
import Derived.Test.YtaheafmdkbobcaaMeth
namespace Go.Proofs.Ytaheafmdkbobcaa
open Go.RowKit

set_option maxHeartbeats 400000 in
theorem set_any (x : Int) (B : Bk) (fp : List Nat) (s : MSt) (w : World) (hx : s.til ≤ x) (hw : ∀ p ∈ s.ws, p.2 ≤ s.til) (h : MkAt w B fp s) :
    Calls Try.prog 26 #[ptr B.wb, .int .u64 x] w fun e w' => e = .returned (.tuple #[]) ∧ Leaves1 w B fp { s with til := x } w' := by
  obtain ⟨c0, c1, -, -, fz⟩ := h.cells
  obtain ⟨m1, t1⟩ := h.set0 x hx hw
  have f1 := fz 0
  have HM := Lib.hid m1
  have HT := Lib.hid t1
  clear m1 t1 fz h hw hx
  go_enter Try.func26, Try.ntmps26
  go_wp2
  go_end0
  exact ⟨rfl, fp, HM.out, fun k hk => .inl hk, HT.out⟩

theorem last_any (B : Bk) (fp : List Nat) (s : MSt) (w : World) (h : MkAt w B fp s) : Calls Try.prog 28 #[ptr B.wb] w fun e w' => e = .returned (.int .u64 s.last) ∧ w = w' := by
  obtain ⟨c0, c1, -, -, fz⟩ := h.cells
  clear fz h
  go_enter Try.func28, Try.ntmps28
  go_wp2
  go_ret
  exact ⟨rfl, rfl⟩

theorem until_any (B : Bk) (fp : List Nat) (s : MSt) (w : World) (h : MkAt w B fp s) : Calls Try.prog 27 #[ptr B.wb] w fun e w' => e = .returned (.int .u64 s.til) ∧ w = w' :=
  doneUntil_any _ _ _ h.cells.1

theorem pending_any (B : Bk) (fp : List Nat) (s : MSt) (w : World) (h : MkAt w B fp s) : Calls Try.prog 29 #[ptr B.wb] w fun e w' => e = .returned (.int .i64 s.pl.length) ∧ w = w' := by
  obtain ⟨c0, c1, c4, -, fz⟩ := h.cells
  obtain ⟨v, hs, es, hm, -⟩ := h
  have hln := hm.pend.len (P := Try.prog) Try.underlying59 3
  rw [List.length_map] at hln
  clear fz hm
  go_enter Try.func29, Try.ntmps29
  go_wp2
  go_ret
  exact ⟨rfl, rfl⟩

/-- How many wait that are not done. -/
def waitN (s : MSt) : Nat := (s.ws.filter (fun p => !told s p.2)).length

theorem sum_blk {ws : List (Nat × Int)} : ∀ {ks : List Int}, ks.Nodup → (ks.map (fun k => (blk ws k).length)).sum = (ws.filter (fun p => ks.contains p.2)).length := by
  induction ws with
  | nil =>
    intro ks _
    simp only [List.filter_nil, List.length_nil]
    have : ∀ l : List Int, (l.map (fun k => (blk [] k).length)).sum = 0 := by
      intro l
      induction l with
      | nil => rfl
      | cons k l ih => simp only [List.map_cons, List.sum_cons, ih]; rfl
    exact this ks
  | cons p ws ih =>
    intro ks hn
    have hb : ∀ k, (blk (p :: ws) k).length = (if p.2 = k then 1 else 0) + (blk ws k).length := by
      intro k
      unfold blk
      by_cases h : p.2 = k
      · rw [List.filter_cons_of_pos (by simpa using h)]; simp [h]; omega
      · rw [List.filter_cons_of_neg (by simpa using h)]; simp [h]
    have h1 : (ks.map (fun k => (blk (p :: ws) k).length)).sum = (ks.map (fun k => if p.2 = k then 1 else 0)).sum + (ks.map (fun k => (blk ws k).length)).sum := by
      have : ks.map (fun k => (blk (p :: ws) k).length) = ks.map (fun k => (if p.2 = k then 1 else 0) + (blk ws k).length) := List.map_congr_left (fun k _ => hb k)
      rw [this]
      clear this hb ih hn
      induction ks with
      | nil => rfl
      | cons k ks ih => simp only [List.map_cons, List.sum_cons, ih]; omega
    have h2 : (ks.map (fun k => if p.2 = k then 1 else 0)).sum = if ks.contains p.2 then 1 else 0 := by
      clear h1 hb ih
      induction ks with
      | nil => rfl
      | cons k ks ih =>
        obtain ⟨a, b⟩ := List.nodup_cons.1 hn
        have ih := ih b
        simp only [List.map_cons, List.sum_cons, ih]
        by_cases h : p.2 = k
        · have : ks.contains p.2 = false := by rw [List.contains_eq_mem, h]; simpa using a
          rw [this]; simp [h]
        · simp [h]
    rw [h1, h2, ih hn]
    by_cases h : ks.contains p.2 = true
    · rw [List.filter_cons_of_pos (by simpa using h), if_pos h, List.length_cons]; omega
    · rw [List.filter_cons_of_neg (by simpa using h), if_neg h]; omega

theorem wait_sum {w : World} {qb : Nat} {s : MSt} {es : List (Int × Value)} (h : WtAt w qb s.ws (told s) es) : ((es.map Prod.fst).map (fun k => (blk s.ws k).length)).sum = waitN s := by
  rw [sum_blk h.map.nodup]
  unfold waitN
  congr 1
  apply List.filter_congr
  intro p hp
  rw [Bool.eq_iff_iff, List.contains_eq_mem]
  simp only [decide_eq_true_eq, Bool.not_eq_true']
  rw [h.key]
  constructor
  · exact fun h => h.1
  · exact fun h => ⟨h, p.1, hp⟩

theorem sum_filter {g : Int → Nat} : ∀ {left : List Int} {k : Int}, left.Nodup → k ∈ left → ((left.filter (· != k)).map g).sum + g k = (left.map g).sum
  | [], k, _, h => by simp at h
  | a :: l, k, hn, h => by
    obtain ⟨h1, h2⟩ := List.nodup_cons.1 hn
    by_cases e : a = k
    · subst e
      rw [List.filter_cons_of_neg (by simp)]
      have : l.filter (· != a) = l := by
        rw [List.filter_eq_self]
        intro x hx
        have : x ≠ a := fun e => h1 (e ▸ hx)
        simpa using this
      rw [this]; simp; omega
    · have hk : k ∈ l := by rcases List.mem_cons.1 h with h | h; exact absurd h.symm e; exact h
      have := sum_filter (g := g) h2 hk
      rw [List.filter_cons_of_pos (by simpa using e)]
      simp only [List.map_cons, List.sum_cons]; omega

theorem sum_le_blk (s : MSt) {left : List Int} (hn : left.Nodup) : (left.map (fun k => (blk s.ws k).length)).sum ≤ s.ws.length := by
  rw [sum_blk hn]; exact List.length_filter_le _ _

set_option maxHeartbeats 800000 in
theorem waiting_any (B : Bk) (fp : List Nat) (s : MSt) (w : World) (hwl : s.ws.length ≤ 100000) (h : MkAt w B fp s) : Calls Try.prog 30 #[ptr B.wb] w fun e w' => e = .returned (.int .i64 (waitN s)) ∧ Tch [] w w' := by
  obtain ⟨c0, c1, c4, c5, fz⟩ := h.cells
  obtain ⟨v, hs, es, hm, -⟩ := h
  have hrg : ∃ vv w', (Instr.range 60 (.map (some B.qb))).run Try.prog w = .ok vv w' ∧ (vv = .pointer (some ⟨w.heap.size, 0, none⟩) ∧ RIter .u64 w' w.heap.size B.qb es (es.map Prod.fst) ∧ Tch [] w w') := by
    obtain ⟨w', a1, a2, a3, _⟩ := hm.wt.map.range (P := Try.prog) (t := 60) Try.underlying60
    exact ⟨_, w', a1, rfl, a2, a3⟩
  have HRG := Lib.hid hrg
  clear hrg fz
  go_enter Try.func30, Try.ntmps30
  go_wp2_with (at_range; refine wpList_range_run rfl _ 60 rfl _ rfl _ HRG.out ?_; rintro vv w5 ⟨rfl, hit5, ht5⟩; go_frame)
  go_loopg [3] es.length (fun n s3 wr => ∃ (left : List Int) (c : Nat), n = left.length ∧ s3 = .int .i64 c ∧ RIter .u64 wr w.heap.size B.qb es left ∧ Hid (left.Nodup ∧ c + (left.map (fun k => (blk s.ws k).length)).sum = waitN s) ∧ Tch [] w wr)
  case atStart => exact ⟨es.map Prod.fst, 0, by simp, rfl, hit5, ⟨hm.wt.map.nodup, by rw [Nat.zero_add]; exact wait_sum hm.wt⟩, ht5⟩
  case round =>
    obtain ⟨left, c, rfl, rfl, hit, HD, hT⟩ := hrel
    have hrb : w.heap.size ≠ B.qb := hit.ne_map hit.map
    rcases hit.next (P := Try.prog) hrb 0 with ⟨hl, hrun⟩ | ⟨k, vv, w6, hk, hat, hrun, hit6, ht6, hsz6, hent⟩
    · have hc : c = waitN s := by have := HD.out.2; rw [hl] at this; simpa using this
      have HC := Lib.hid hc
      clear hl hc
      go_wp2_with fail
      go_ret
      exact ⟨(show Ending.returned (.int .i64 (c : Int)) = Ending.returned (.int .i64 (waitN s : Int)) from by rw [HC.out]), hT⟩
    · obtain ⟨g, cap, rfl, hrow⟩ := hm.wt.slice (at?_some_mem hat)
      obtain ⟨d1, d2⟩ := HD.out
      have hs1 := sum_filter (g := fun k => (blk s.ws k).length) d1 hk
      have hs2 := sum_le_blk s d1
      have hll : (left.filter (· != k)).length < left.length := by
        rw [← Nat.not_le]
        intro hle
        have := (List.length_filter_eq_length_iff (p := (· != k)) (l := left)).1 (by have := List.length_filter_le (· != k) left; omega) k hk
        simp at this
      have hw1 : waitN s ≤ s.ws.length := List.length_filter_le _ _
      have hcb : c + (blk s.ws k).length ≤ 100000 := by omega
      have HLL := Lib.hid hll
      have HN := Lib.hid (show (left.filter (· != k)).Nodup ∧ (c + (blk s.ws k).length) + ((left.filter (· != k)).map (fun k => (blk s.ws k).length)).sum = waitN s from ⟨d1.filter _, by omega⟩)
      have hT6 : Tch [] w w6 := hT.then ht6 (by intro i hi' hm'; have := List.mem_singleton.1 hm'; omega)
      clear hat hrow d1 d2 hs1 hs2 hll hw1
      generalize hbl : (blk s.ws k).length = bl at *
      clear hbl
      go_wp2_with fail
      go_roundg (left.filter (· != k)).length
      case rel => exact ⟨_, c + bl, rfl, by go_num, hit6, HN.out, hT6⟩
      case measure => exact HLL.out

/-- A new water mark. -/
def new0 : MSt := ⟨0, 0, [], []⟩

theorem new_any (w : World) : Calls Try.prog 20 #[] w fun e w' => ∃ B fp, e = .returned (ptr B.wb) ∧ MkAt w' B fp new0 ∧ (∀ k ∈ fp, w.heap.size ≤ k) ∧ Tch [] w w' := by
  have hmm := @run_makeMap Try.prog
  have K : ∃ B fp, ptr (w.heap.size + 2) = ptr B.wb ∧ MkAt (((w.alloc (.map #[] 0)).alloc (.map #[] 0)).alloc (.cells #[.int .u64 0, .int .u64 0, .string ⟨#[]⟩, .slice none 0 0, .map (some w.heap.size), .map (some (w.heap.size + 1))] 63)) B fp new0 ∧ (∀ k ∈ fp, w.heap.size ≤ k) ∧
      Tch [] w (((w.alloc (.map #[] 0)).alloc (.map #[] 0)).alloc (.cells #[.int .u64 0, .int .u64 0, .string ⟨#[]⟩, .slice none 0 0, .map (some w.heap.size), .map (some (w.heap.size + 1))] 63)) := by
    refine ⟨⟨w.heap.size + 2, w.heap.size, w.heap.size + 1⟩, [w.heap.size + 2, w.heap.size, w.heap.size + 1], rfl, ⟨.slice none 0 0, [], [], ⟨?_, World.ownsRow_nil _ _ _ _, ?_, by simp, ⟨?_, by simp, by simp, by intro k; simp [new0]⟩, by simp [new0], by simp [new0], by intro k _ h; simp at h⟩, by simp [foot, rows, new0, Value.ownBlock]⟩, by simp, (((Tch.refl _ _).alloc _).alloc _).alloc _⟩
    · rw [heap_get_alloc, if_pos (by simp)]; rfl
    · exact ⟨#[], 0, by rw [heap_get_alloc, if_neg (by simp; omega), heap_get_alloc, if_neg (by simp), heap_get_alloc, if_pos rfl], MapKept.stamped_empty 0, rfl⟩
    · exact ⟨#[], 0, by rw [heap_get_alloc, if_neg (by simp), heap_get_alloc, if_pos (by simp)], MapKept.stamped_empty 0, rfl⟩
  have HK := Lib.hid K
  clear K
  go_enter Try.func20, Try.ntmps20
  go_wp2
  go_ret
  obtain ⟨B, fp, h1, h2⟩ := HK.out
  exact ⟨B, fp, congrArg Ending.returned h1, h2⟩

/-- The state behind a wait: none more where the mark has come to the index. -/
def wait1 (s : MSt) (b : Nat) (x : Int) : MSt := if x ≤ s.til then s else waitS s b x

set_option maxHeartbeats 400000 in
theorem wait_any (x : Int) (B : Bk) (fp : List Nat) (s : MSt) (w : World) (hwl : s.ws.length ≤ 100000) (h : MkAt w B fp s) :
    Calls Try.prog 25 #[ptr B.wb, .int .u64 x] w fun e w' => ∃ b fp', e = .returned (ptr b) ∧ FlagAt w' b (told s x) ∧ MkAt w' B fp' (wait1 s b x) ∧ (∀ k ∈ fp', k ∈ fp ∨ w.heap.size ≤ k) ∧ Tch fp w w' ∧ w.heap.size ≤ b ∧ (x ≤ s.til → b ∉ fp') := by
  have hlt : ∀ k ∈ fp, True := fun _ _ => trivial
  by_cases hx : x ≤ s.til
  · have hd0 : decide (x ≤ s.til) = true := by simpa using hx
    have K : ∃ b fp', ptr w.heap.size = ptr b ∧ FlagAt (w.alloc (.cells #[.bool true] 56)) b (told s x) ∧ MkAt (w.alloc (.cells #[.bool true] 56)) B fp' (wait1 s b x) ∧ (∀ k ∈ fp', k ∈ fp ∨ w.heap.size ≤ k) ∧ Tch fp w (w.alloc (.cells #[.bool true] 56)) ∧ w.heap.size ≤ b ∧ (x ≤ s.til → b ∉ fp') := by
      obtain ⟨v, hs, es, hm, hf⟩ := h
      have t : Tch [] w (w.alloc (.cells #[.bool true] 56)) := (Tch.refl _ _).alloc _
      refine ⟨w.heap.size, foot B v es s, rfl, ?_, ⟨v, hs, es, ?_, ?_⟩, fun k hk => .inl (hf k hk), t.mono (by simp), Nat.le_refl _, fun _ hm' => ?_⟩
      · simp only [FlagAt, told, hd0]; exact heap_alloc_new w _
      · rw [wait1, if_pos hx]; exact hm.tch t (by simp)
      · rw [wait1, if_pos hx]; exact fun k hk => hk
      · have := hm.lt _ hm'; omega
    have HK := Lib.hid K
    clear K
    have hc := h.cells.1
    clear h hlt
    go_enter Try.func25, Try.ntmps25
    go_wp2_with (go_at_call 27; refine (doneUntil_any _ _ _ hc).mono ?_; rintro e w' ⟨rfl, rfl⟩)
    go_ret
    obtain ⟨b, fp', h1, h2⟩ := HK.out
    exact ⟨b, fp', congrArg Ending.returned h1, h2⟩
  · have hd0 : decide (x ≤ s.til) = false := by simpa using hx
    have t : Tch [] w (w.alloc (.cells #[.bool false] 56)) := (Tch.refl _ _).alloc _
    have hm1 : MkAt (w.alloc (.cells #[.bool false] 56)) B (w.heap.size :: fp) s := by
      obtain ⟨v, hs, es, hm, hf⟩ := h
      exact ⟨v, hs, es, hm.tch t (by simp), fun k hk => List.mem_cons_of_mem _ (hf k hk)⟩
    have hfl : FlagAt (w.alloc (.cells #[.bool false] 56)) w.heap.size false := heap_alloc_new w _
    have HP := Lib.hid (process_wait x w.heap.size B (w.heap.size :: fp) s _ hwl (by omega) hfl (by simp) hm1)
    have hc := h.cells.1
    have hw1 : wait1 s w.heap.size x = waitS s w.heap.size x := by rw [wait1, if_neg hx]
    have HW := Lib.hid hw1
    have HX := Lib.hid hx
    clear h hm1 hfl hlt hw1 hx
    go_enter Try.func25, Try.ntmps25
    go_wp2_with (first | (go_at_call 27; refine (doneUntil_any _ _ _ hc).mono ?_; rintro e w' ⟨rfl, rfl⟩) | (go_at_call 33; refine HP.out.mono ?_; rintro e w2 ⟨rfl, hl⟩))
    go_ret
    obtain ⟨fp', m1, m2, m3⟩ := hl
    refine ⟨w.heap.size, fp', rfl, ?_, by rw [HW.out]; exact m1, ?_, (t.mono (T := fp) (by simp)).then m3 ?_, Nat.le_refl _, fun hx' => by have := HX.out; omega⟩
    · obtain ⟨v, hs, es, hm, hf⟩ := m1
      have := hm.flag (w.heap.size, x) (by simp [waitS])
      exact this
    · intro k hk
      rcases m2 k hk with h | h
      · rcases List.mem_cons.1 h with h | h
        · right; omega
        · exact .inl h
      · right; simp at h; omega
    · intro i hi hm
      rcases List.mem_cons.1 hm with h | h
      · omega
      · exact h

end Go.Proofs.Ytaheafmdkbobcaa
