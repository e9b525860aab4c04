/- The methods of a water mark. -/
import Derived.Test.YtaheafmdkbobcaaProcW
namespace Go.Proofs.Ytaheafmdkbobcaa
open Go.RowKit

theorem Mk.strTch {w : World} {B : Bk} {v : Value} {hs : List Int} {es : List (Int × Value)} {s : MSt} (h : Mk w B v hs es s) (j : Nat) (u : Value) :
    Tch [B.wb] w (w.setCell ⟨B.wb, j, none⟩ u) ∧ (∀ {b : Nat} {c : Array Value} {tt : TypeId}, w.heap[b]? = some (.cells c tt (0, 0)) → tt ≠ 63 → b ∉ [B.wb]) ∧ (∀ {b : Nat} {l : List (Int × Value)}, RMap .u64 w b l → b ∉ [B.wb]) := by
  refine ⟨(Tch.refl _ _).setCell (p := ⟨B.wb, j, none⟩) (fun _ => by simp) _, fun hb h1 hm => cells_ne hb h.str h1 (by simpa using hm), fun hb hm => hb.ne_cells h.str (by simpa using hm)⟩

theorem Mk.set1 {w : World} {B : Bk} {v : Value} {hs : List Int} {es : List (Int × Value)} {s : MSt} (h : Mk w B v hs es s) (x : Int) :
    Mk (w.setCell ⟨B.wb, 1, none⟩ (.int .u64 x)) B v hs es { s with last := x } := by
  obtain ⟨t, hne, hmap⟩ := h.strTch 1 (.int .u64 x)
  have hs' := heap_setCell_same w B.wb 1 _ 63 (.int .u64 x) h.str
  refine ⟨by simpa using hs', t.own h.own (fun g hg => ?_), h.pend.tch t (hmap h.pend), h.pq, h.wt.tch t (hmap h.wt.map) (fun g hg => ?_), flags_tch h.flag t (fun p hp => hne (h.flag p hp) (by decide)), h.perm, h.heap⟩
  · obtain ⟨cur, hc⟩ := ownsRow_block h.own hg
    exact hne hc (by decide)
  · obtain ⟨cur, hc⟩ := rows_cells h.wt hg
    exact hne hc (by decide)

theorem Mk.set0 {w : World} {B : Bk} {v : Value} {hs : List Int} {es : List (Int × Value)} {s : MSt} (h : Mk w B v hs es s) (x : Int) (hx : s.til ≤ x) (hw : ∀ p ∈ s.ws, p.2 ≤ s.til) :
    Mk (w.setCell ⟨B.wb, 0, none⟩ (.int .u64 x)) B v hs es { s with til := x } := by
  obtain ⟨t, hne, hmap⟩ := h.strTch 0 (.int .u64 x)
  have hs' := heap_setCell_same w B.wb 0 _ 63 (.int .u64 x) h.str
  have ht : ∀ p ∈ s.ws, told { s with til := x } p.2 = told s p.2 := by
    intro p hp
    have := hw p hp
    simp only [told]
    rw [Bool.eq_iff_iff]; simp; omega
  refine ⟨by simpa using hs', t.own h.own (fun g hg => ?_), h.pend.tch t (hmap h.pend), h.pq, ?_, fun p hp => by rw [ht p hp]; exact flags_tch h.flag t (fun p hp => hne (h.flag p hp) (by decide)) p hp, h.perm, h.heap⟩
  · obtain ⟨cur, hc⟩ := ownsRow_block h.own hg
    exact hne hc (by decide)
  · have h2 := h.wt.tch t (hmap h.wt.map) (fun g hg => by
      obtain ⟨cur, hc⟩ := rows_cells h.wt hg
      exact hne hc (by decide))
    refine ⟨h2.map, h2.row, h2.apart, fun k => (h2.key k).trans ?_⟩
    constructor
    · rintro ⟨a, b, hb⟩; exact ⟨by rw [ht _ hb]; exact a, b, hb⟩
    · rintro ⟨a, b, hb⟩; exact ⟨by rw [← ht _ hb]; exact a, b, hb⟩

theorem MkAt.cells {w : World} {B : Bk} {fp : List Nat} {s : MSt} (h : MkAt w B fp s) :
    w.cell? ⟨B.wb, 0, none⟩ = some (.int .u64 s.til) ∧ w.cell? ⟨B.wb, 1, none⟩ = some (.int .u64 s.last) ∧ w.cell? ⟨B.wb, 4, none⟩ = some (.map (some B.pb)) ∧ w.cell? ⟨B.wb, 5, none⟩ = some (.map (some B.qb)) ∧ ∀ j, w.frozen? ⟨B.wb, j, none⟩ = false := by
  obtain ⟨v, hs, es, hm, _⟩ := h
  refine ⟨?_, ?_, ?_, ?_, fun j => frozen_of_row w B.wb j _ 63 hm.str⟩
  all_goals (rw [cell_of_row w B.wb _ _ 63 (0, 0) hm.str]; rfl)

theorem MkAt.set1 {w : World} {B : Bk} {fp : List Nat} {s : MSt} (h : MkAt w B fp s) (x : Int) : MkAt (w.setCell ⟨B.wb, 1, none⟩ (.int .u64 x)) B fp { s with last := x } ∧ Tch fp w (w.setCell ⟨B.wb, 1, none⟩ (.int .u64 x)) := by
  obtain ⟨v, hs, es, hm, hf⟩ := h
  exact ⟨⟨v, hs, es, hm.set1 x, hf⟩, (Tch.refl _ _).setCell (p := ⟨B.wb, 1, none⟩) (fun _ => hf _ (by simp [foot])) _⟩

theorem MkAt.set0 {w : World} {B : Bk} {fp : List Nat} {s : MSt} (h : MkAt w B fp s) (x : Int) (hx : s.til ≤ x) (hw : ∀ p ∈ s.ws, p.2 ≤ s.til) : MkAt (w.setCell ⟨B.wb, 0, none⟩ (.int .u64 x)) B fp { s with til := x } ∧ Tch fp w (w.setCell ⟨B.wb, 0, none⟩ (.int .u64 x)) := by
  obtain ⟨v, hs, es, hm, hf⟩ := h
  exact ⟨⟨v, hs, es, hm.set0 x hx hw, hf⟩, (Tch.refl _ _).setCell (p := ⟨B.wb, 0, none⟩) (fun _ => hf _ (by simp [foot])) _⟩

theorem process_x (x : Int) (dn : Bool) (B : Bk) (fp : List Nat) (s : MSt) (w : World) (G : Good s 90000) (hok : ok1 s x dn) (hx : 0 < x) (h : MkAt w B fp s) :
    Calls Try.prog 33 #[ptr B.wb, .agg #[.int .u64 x, .pointer none, .slice none 0 0, .bool dn]] w fun e w' => e = .returned (.tuple #[]) ∧ Leaves1 w B fp (next1 s x dn) w' := by
  have e : idxs x [] = [x] := by simp [idxs, hx]
  have := process_idx x [] dn none 0 B fp s w G (by simp) (by omega) (by omega) (by rw [e]; exact ⟨hok, trivial⟩) (World.ownsRow_nil _ _ _ _) (by simp [Value.ownBlock]) h
  rw [e] at this
  exact this

set_option maxHeartbeats 400000 in
theorem begin_any (x : Int) (B : Bk) (fp : List Nat) (s : MSt) (w : World) (G : Good s 90000) (h1 : s.til < x) (h2 : x < MAX) (h : MkAt w B fp s) :
    Calls Try.prog 21 #[ptr B.wb, .int .u64 x] w fun e w' => e = .returned (.tuple #[]) ∧ Leaves1 w B fp (next1 { s with last := x } x false) w' := by
  have hG : Good { s with last := x } 90000 := ⟨G.t0, G.t1, G.keys, G.cnts, G.least, G.nd, G.wnd, G.len, G.wlen⟩
  obtain ⟨c0, c1, -, -, fz⟩ := h.cells
  obtain ⟨m1, t1⟩ := h.set1 x
  have f1 := fz 1
  have hx : 0 < x := by have := G.t0; omega
  have HP := Lib.hid (process_x x false B fp { s with last := x } _ hG ⟨by simp, fun _ => ⟨h1, h2⟩⟩ hx m1)
  have HT := Lib.hid t1
  clear hG m1 t1 fz G h1 h2
  go_enter Try.func21, Try.ntmps21
  go_wp2_with (go_at_call 33; refine HP.out.mono ?_; rintro e w2 ⟨rfl, hl⟩)
  go_end0
  exact ⟨rfl, hl.trans HT.out (fun k hk => .inl hk)⟩

set_option maxHeartbeats 400000 in
theorem done_any (x c : Int) (B : Bk) (fp : List Nat) (s : MSt) (w : World) (G : Good s 90000) (hc : cnt? s.pl x = some c) (hc1 : 1 ≤ c) (h : MkAt w B fp s) :
    Calls Try.prog 23 #[ptr B.wb, .int .u64 x] w fun e w' => e = .returned (.tuple #[]) ∧ Leaves1 w B fp (next1 s x true) w' := by
  have hx : 0 < x := by have := G.t0; have := (G.keys _ ((cnt_mem G.nd).1 hc)).1; simp only at this; omega
  have HP := Lib.hid (process_x x true B fp s w G ⟨fun _ => ⟨c, hc, hc1⟩, by simp⟩ hx h)
  clear G hc h
  go_enter Try.func23, Try.ntmps23
  go_wp2_with (go_at_call 33; refine HP.out.mono ?_; rintro e w2 ⟨rfl, hl⟩)
  go_end0
  exact ⟨rfl, hl⟩

set_option maxHeartbeats 400000 in
theorem doneMany_any (zs : List Int) (a : Option Addr) (cz : Nat) (B : Bk) (fp : List Nat) (s : MSt) (w : World) (G : Good s 90000) (hzl : zs.length ≤ 5000) (hz : 0 < zs.length) (hok : okMany s zs true)
    (hown : w.ownsRow 0 28 1 (.slice a zs.length cz) zs.length (U zs)) (hofp : ∀ k, (Value.slice a zs.length cz).ownBlock = some k → k ∉ fp) (h : MkAt w B fp s) :
    Calls Try.prog 24 #[ptr B.wb, .slice a zs.length cz] w fun e w' => e = .returned (.tuple #[]) ∧ Leaves1 w B fp (nextMany s zs true) w' := by
  have e : idxs 0 zs = zs := by simp [idxs]
  have hp := process_idx 0 zs true a cz B fp s w G hzl (by omega) (fun _ => hz) (by rw [e]; exact hok) hown hofp h
  rw [e] at hp
  have HP := Lib.hid hp
  clear hp G hok hown hofp h e
  go_enter Try.func24, Try.ntmps24
  go_wp2_with (go_at_call 33; refine HP.out.mono ?_; rintro e w2 ⟨rfl, hl⟩)
  go_end0
  exact ⟨rfl, hl⟩

set_option maxHeartbeats 400000 in
theorem beginMany_any (zs : List Int) (g cz : Nat) (B : Bk) (fp : List Nat) (s : MSt) (w : World) (G : Good s 90000) (hzl : zs.length ≤ 5000) (hz : 0 < zs.length) (hok : okMany s zs false)
    (hown : w.ownsRow 0 28 1 (.slice (some ⟨g, 0, none⟩) zs.length cz) zs.length (U zs)) (hofp : g ∉ fp) (h : MkAt w B fp s) :
    Calls Try.prog 22 #[ptr B.wb, .slice (some ⟨g, 0, none⟩) zs.length cz] w fun e w' => e = .returned (.tuple #[]) ∧ Leaves1 w B fp (nextMany { s with last := zs.getD (zs.length - 1) 0 } zs false) w' := by
  have hG : Good { s with last := zs.getD (zs.length - 1) 0 } 90000 := ⟨G.t0, G.t1, G.keys, G.cnts, G.least, G.nd, G.wnd, G.len, G.wlen⟩
  obtain ⟨c0, c1, -, -, fz⟩ := h.cells
  obtain ⟨m1, t1⟩ := h.set1 (zs.getD (zs.length - 1) 0)
  have f1 := fz 1
  have hok' : ∀ (l : List Int) (s : MSt) (y : Int), okMany s l false → okMany { s with last := y } l false := by
    intro l
    induction l with
    | nil => intro s y _; trivial
    | cons z l ih =>
      intro s y ho
      exact ⟨ho.1, ih (next1 s z false) y ho.2⟩
  have e : idxs 0 zs = zs := by simp [idxs]
  have hp := process_idx 0 zs false (some ⟨g, 0, none⟩) cz B fp { s with last := zs.getD (zs.length - 1) 0 } _ hG hzl (by omega) (fun _ => hz) (by rw [e]; exact hok' _ _ _ hok) (t1.own hown (by simp [Value.ownBlock]; exact hofp)) (by simp [Value.ownBlock]; exact hofp) m1
  rw [e] at hp
  have HP := Lib.hid hp
  have HT := Lib.hid t1
  obtain ⟨n, hn⟩ : ∃ n, zs.length = n + 1 := ⟨zs.length - 1, by omega⟩
  have cl := cellOf hown (i := n) (by omega)
  have hl1 : (zs.length : Int) - 1 = n := by omega
  have hl2 : n < zs.length := by omega
  have hln : zs.length - 1 = n := by omega
  rw [hln] at HP HT
  rw [hln]
  clear hp hG m1 t1 fz G hok hok' hown e hofp h hln hn
  generalize hlast : zs.getD n 0 = lst at *
  clear hlast
  go_enter Try.func22, Try.ntmps22
  go_wp2_with (go_at_call 33; refine HP.out.mono ?_; rintro e w2 ⟨rfl, hl⟩)
  go_end0
  exact ⟨rfl, hl.trans HT.out (fun k hk => .inl hk)⟩

end Go.Proofs.Ytaheafmdkbobcaa
