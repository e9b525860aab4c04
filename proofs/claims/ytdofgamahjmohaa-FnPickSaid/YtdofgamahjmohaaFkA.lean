/- Priorities in memory; the closure that puts one more down. -/
import Derived.Test.YtdofgamahjmohaaSp
import Derived.Test.YtdofgamahjmohaaFpQ
import Derived.WalkLawsBesides
namespace Go.Proofs.Ytdofgamahjmohaa
open Go.RowKit
set_option maxRecDepth 100000

/-- A priority's cells: all bear the same targets. -/
def prC (b gA gB n : Nat) (x : PrD) : List Value := [.int .i64 x.lvl, .float .f64 x.sc, .float .f64 x.adj, .slice none 0 0, .int .i64 b, .slice (some ⟨gA, 0, none⟩) n n, .slice (some ⟨gB, 0, none⟩) n n]
theorem Try.infoPr : (Try.prog.info? 140).map (fun i => (i.zero, i.size, i.bytes)) = some (some (.agg #[.int .i64 0, .float .f64 0, .float .f64 0, .slice none 0 0, .int .i64 0, .slice none 0 0, .slice none 0 0]), 7, 104) := by kernel_rfl

/-- Blocks of other types stay. -/
def KeepO (W w' : World) : Prop := ∀ (g : Nat) (cs : Array Value) (e : TypeId), W.heap[g]? = some (.cells cs e (0, 0)) → e ≠ 140 → e ≠ 136 → w'.heap[g]? = some (.cells cs e (0, 0))
theorem KeepO.tch {W w' : World} (t : Tch [] W w') : KeepO W w' := fun g cs e h _ _ => t.obj h (by simp)
theorem KeepO.trans {a b c : World} (h : KeepO a b) (k : KeepO b c) : KeepO a c := fun g cs e h1 h2 h3 => k g cs e (h g cs e h1 h2 h3) h2 h3
/-- The priorities, as they are gathered. -/
structure PS (w0 wr : World) (gV gT b gA gB n : Nat) (xs : List PrD) (a : Option Addr) (c : Nat) : Prop where
  t : Tch [] w0 wr
  pv : wr.heap[gV]? = some (.cells #[.slice a xs.length c] 136 (0, 0))
  tt : wr.heap[gT]? = some (.cells #[.int .i64 b, .slice (some ⟨gA, 0, none⟩) n n, .slice (some ⟨gB, 0, none⟩) n n] 98 (0, 0))
  row : wr.ownsRow w0.heap.size 140 7 (.slice a xs.length c) xs.length (xs.flatMap (prC b gA gB n))
  new : w0.heap.size ≤ gV
theorem PS.tch {w0 wr w' : World} {gV gT b gA gB n : Nat} {xs : List PrD} {a : Option Addr} {c : Nat} (h : PS w0 wr gV gT b gA gB n xs a c) (t : Tch [] wr w') : PS w0 w' gV gT b gA gB n xs a c :=
  ⟨h.t.trans t, t.obj h.pv (by simp), t.obj h.tt (by simp), ownsRow_tch h.row t (by simp), h.new⟩
theorem PS.put {w0 w7 : World} {gV gT b gA gB n : Nat} {xs : List PrD} {x : PrD} {v a' : Option Addr} {m0 c0 c' : Nat} (hpv : w7.heap[gV]? = some (.cells #[.slice v m0 c0] 136 (0, 0))) (htt : w7.heap[gT]? = some (.cells #[.int .i64 b, .slice (some ⟨gA, 0, none⟩) n n, .slice (some ⟨gB, 0, none⟩) n n] 98 (0, 0)))
    (ho : Own w0 w7 140 7 (.slice a' (xs.length + 1) c') (xs.length + 1) (xs.flatMap (prC b gA gB n) ++ prC b gA gB n x)) (hn : w0.heap.size ≤ gV) : PS w0 (w7.setCell ⟨gV, 0, none⟩ (.slice a' (xs.length + 1) c')) gV gT b gA gB n (xs ++ [x]) a' c' := by
  have t : Tch [gV] w7 (w7.setCell ⟨gV, 0, none⟩ (.slice a' (xs.length + 1) c')) := (Tch.refl _ _).setCell (p := ⟨gV, 0, none⟩) (fun _ => by simp) _
  have hz := heap_setCell_same w7 gV 0 _ _ (.slice a' (xs.length + 1) c') hpv
  refine ⟨tch_new ho.t t (fun g hg => by rw [List.mem_singleton.1 hg]; exact hn), ?_, obj_off htt t (sep_obj hpv (by decide)), ?_, hn⟩
  · rw [List.length_append, List.length_singleton]
    simpa using hz
  · have h := ownsRow_off ho.row t (sep_obj hpv (by decide))
    rw [List.length_append, List.length_singleton, List.flatMap_append]
    simpa using h

set_option maxHeartbeats 2000000 in
theorem addPri_any (w0 W : World) (gV gT b gA gB n : Nat) (xs : List PrD) (a : Option Addr) (c : Nat) (h : PS w0 W gV gT b gA gB n xs a c) (l sc : Nat) (hl : xs.length ≤ 100) :
    Calls Try.prog 69 #[.int .i64 l, .float .f64 sc, ptr gT, ptr gV] W fun e w' => e = .returned (.tuple #[]) ∧ KeepO W w' ∧ ∃ a' c', PS w0 w' gV gT b gA gB n (xs ++ [⟨l, sc, sc⟩]) a' c' := by
  obtain ⟨i0, hinf, hz0, hz1, hz2⟩ := info_parts Try.infoPr
  have HO : Hid (Own w0 W 140 7 (.slice a xs.length c) xs.length (xs.flatMap (prC b gA gB n))) := Lib.hid ⟨h.t, h.row⟩
  have HT1 := Lib.hid ((Tch.refl [] W).alloc (.cells #[.int .i64 l, .float .f64 sc, .float .f64 sc, .slice none 0 0, .int .i64 b, .slice (some ⟨gA, 0, none⟩) n n, .slice (some ⟨gB, 0, none⟩) n n] 140))
  have HA := Lib.hid (own_app (ty := 136) Try.underlying136 hinf hz0 hz1 hz2 rfl (by decide) (by decide) #[.int .i64 l, .float .f64 sc, .float .f64 sc, .slice none 0 0, .int .i64 b, .slice (some ⟨gA, 0, none⟩) n n, .slice (some ⟨gB, 0, none⟩) n n] (HO.out.tch HT1.out) (by omega) rfl (by intro y hy; simp only [List.mem_cons, List.not_mem_nil, or_false] at hy; rcases hy with rfl | rfl | rfl | rfl | rfl | rfl | rfl <;> rfl))
  have HPV := Lib.hid h.pv
  have HTT := Lib.hid h.tt
  have HNW := Lib.hid h.new
  obtain ⟨t0, t1, t2⟩ := tt_cells h.tt
  have p0 : W.cell? ⟨gV, 0, none⟩ = some (.slice a xs.length c) := by rw [cell_of_row W gV 0 _ _ _ h.pv]; rfl
  clear h hinf hz0 hz1 hz2
  have p1 : (W.alloc (.cells #[.int .i64 l, .float .f64 sc, .float .f64 sc, .slice none 0 0, .int .i64 b, .slice (some ⟨gA, 0, none⟩) n n, .slice (some ⟨gB, 0, none⟩) n n] 140)).cell? ⟨gV, 0, none⟩ = some (.slice a xs.length c) := cell_tch p0 HT1.out
  have hsf := store_float
  go_enter Try.func69, Try.ntmps69
  have HP7 := Lib.hid (fun (w7 : World) (t : Tch (Value.slice a xs.length c).ownBlock.toList (W.alloc (.cells #[.int .i64 l, .float .f64 sc, .float .f64 sc, .slice none 0 0, .int .i64 b, .slice (some ⟨gA, 0, none⟩) n n, .slice (some ⟨gB, 0, none⟩) n n] 140)) w7) => (⟨obj_off (HT1.out.obj HPV.out (by simp)) t (sep_row (HO.out.tch HT1.out).row (by decide)), obj_off (HT1.out.obj HTT.out (by simp)) t (sep_row (HO.out.tch HT1.out).row (by decide))⟩ : _ ∧ _))
  go_wp2_with (at_builtin; refine wpList_append_run rfl (.tmp 12) (.tmp 14) 136 rfl (.slice a xs.length c) (.slice (some ⟨W.heap.size + 1, 0, none⟩) 1 1) (by simp [Act.eval]) (by simp [Act.eval]) _ (by simpa using HA.out) ?_; rintro vv w7 ⟨g7, c7, rfl, n1, n2, n3, n4, n5⟩; have HN1 := Lib.hid n1; have HN4 := Lib.hid n4; have HQ7 := Lib.hid (HP7.out w7 n4); clear n1 n2 n3 n4 n5 p0 p1 t0 t1 t2; have f0 := frozen_of (j := 0) HQ7.out.1; have q0 : w7.cell? ⟨gV, 0, none⟩ = some (.slice a xs.length c) := by rw [cell_of_row w7 gV 0 _ _ _ HQ7.out.1]; rfl)
  go_end0
  refine ⟨rfl, fun g cs e h h1 h2 => ?_, some ⟨g7, 0, none⟩, c7, PS.put HQ7.out.1 HQ7.out.2 (by simpa [prC] using HN1.out) HNW.out⟩
  exact obj_off (obj_off (HT1.out.obj h (by simp)) HN4.out (sep_row (HO.out.tch HT1.out).row (fun e => h1 e.symm))) ((Tch.refl [gV] w7).setCell (p := ⟨gV, 0, none⟩) (fun _ => by simp) _) (sep_obj HQ7.out.1 (fun e => h2 e.symm))

end Go.Proofs.Ytdofgamahjmohaa
