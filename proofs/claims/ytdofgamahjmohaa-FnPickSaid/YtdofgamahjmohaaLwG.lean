/- (*Levels).Targets. -/
import Derived.Test.YtdofgamahjmohaaLwF
import Derived.Test.YtdofgamahjmohaaLwC
namespace Go.Proofs.Ytdofgamahjmohaa
open Go.RowKit
set_option maxRecDepth 100000

/-- The sizes of levels. -/
def szs (LL : List (List Tb)) (j : Nat) : Int := tsum Tb.bytes (LL.getD j [])
def tgs (LL : List (List Tb)) (o : Op) : Nat → Int := tg LL.length (szs LL (LL.length - 1)) o.lt o.bl
def Based (LL : List (List Tb)) (o : Op) (b : Nat) : Prop := GoBase2 LL.length (szs LL) (fun i => tgs LL o i ≤ o.bl) (fun i => szs LL i < tgs LL o i ∧ szs LL i < o.bl) b

theorem szs_bound {LL : List (List Tb)} {o : Op} (hv : Valid LL o) {j : Nat} (hj : j < LL.length) : 0 ≤ szs LL j ∧ szs LL j ≤ 1125899906842624 ∧ (szs LL j = 0 ↔ LL.getD j [] = []) := by
  have hm : LL.getD j [] ∈ LL := by simp [List.getD, List.getElem?_eq_getElem hj]
  have hB := tsum_bound (f := Tb.bytes) (B := 1099511627776) (ts := LL.getD j []) (fun t ht => by
    have := hv.fine _ hm _ ht
    unfold Tb.fine at this
    omega)
  have h30 := hv.few _ hm
  have hlen : ((LL.getD j []).length : Int) * 1099511627776 ≤ 30 * 1099511627776 := by omega
  refine ⟨by unfold szs; omega, by unfold szs; omega, fun h => ?_, fun h => by unfold szs; rw [h]; rfl⟩
  unfold szs at h
  cases hl : LL.getD j [] with
  | nil => rfl
  | cons t ts =>
    rw [hl] at h hm
    have h1 := hv.fine _ hm t (by simp)
    have hB2 := tsum_bound (f := Tb.bytes) (B := 1099511627776) (ts := ts) (fun t ht => by
      have := hv.fine _ hm t (by simp [ht])
      unfold Tb.fine at this
      omega)
    unfold Tb.fine at h1
    have : tsum Tb.bytes (t :: ts) = t.bytes + tsum Tb.bytes ts := by unfold tsum; simp
    omega

theorem made_cr {w : World} {gL : Nat} {LL : List (List Tb)} {o : Op} (h : Made w gL (opA o.lv o.lt o.tt o.zt o.bl o.bt o.mt o.di) LL.length LL) (hn : 0 < LL.length) :
    ∃ gs go gH hc hb, w.heap[gL]? = some (.cells #[ptr gs, .slice none 0 0] 102 (0, 0)) ∧ CR w gs go gH LL.length hc hb (szs LL) o.lt o.tt o.bl o.bt o.mt := by
  obtain ⟨b, gs, go, HA, CA, hc, cc, mv, hds, cbs, hL, hC⟩ := h
  obtain ⟨gH, cap, e, -, hlt⟩ := ownsRow_value hC.hrow hn
  simp only [Value.slice.injEq, true_and] at e
  obtain ⟨rfl, rfl⟩ := e
  have oc : ∀ i v, (opA o.lv o.lt o.tt o.zt o.bl o.bt o.mt o.di)[i]? = some v → w.cell? ⟨go, i, none⟩ = some v := fun i v hv => by rw [cell_of_row w _ _ _ 69 (0, 0) hC.so]; exact hv
  have sc : ∀ i v, (#[.slice (some ⟨gH, 0, none⟩) LL.length hc, ptr go, .slice CA LL.length cc, mv] : Array Value)[i]? = some v → w.cell? ⟨gs, i, none⟩ = some v := fun i v hv => by rw [cell_of_row w _ _ _ 112 (0, 0) hC.sc]; exact hv
  refine ⟨gs, go, gH, hc, fun j => (hds.getD j default).h, hL, lt_of_obj hC.sc, lt_of_obj hC.so, hlt, fun j hj => lt_of_obj (hC.lev j hj).hh.out, sc 0 _ rfl, sc 1 _ rfl, oc 1 _ rfl, oc 2 _ rfl, oc 4 _ rfl, oc 5 _ rfl, oc 6 _ rfl, fun j hj => ?_, fun j hj => ?_⟩
  · have hj2 : j < hds.length := by rw [hC.len]; exact hj
    have := (own_cell hC.hrow (j := j) (u := ptr (hds.getD j default).h) (by simp [List.getD, List.getElem?_eq_getElem hj2])).2
    have e1 : (⟨gH, 0, none⟩ : Addr).add j = ⟨gH, j, none⟩ := by unfold Addr.add; split <;> simp_all
    rw [e1] at this
    exact this
  · exact (hC.lev j hj).hh.c.2.1

set_option maxHeartbeats 1000000 in
theorem lTargets_any (gL : Nat) (LL : List (List Tb)) (o : Op) (w : World) (h : Made w gL (opA o.lv o.lt o.tt o.zt o.bl o.bt o.mt o.di) LL.length LL) (hv : Valid LL o) :
    Calls Try.prog 32 #[ptr gL] w fun e w' => ∃ (b gA gB : Nat), e = .returned (.tuple #[.int .i64 b, .slice (some ⟨gA, 0, none⟩) LL.length LL.length, .slice (some ⟨gB, 0, none⟩) LL.length LL.length]) ∧
      w'.heap[gA]? = some (.cells (arr LL.length (tgs LL o)) 2 (0, 0)) ∧ w'.heap[gB]? = some (.cells (arr LL.length (fsz o.tt o.bt o.mt b)) 2 (0, 0)) ∧ Based LL o b ∧ Tch [] w w' := by
  obtain ⟨m, hm⟩ : ∃ m, LL.length = m + 2 := ⟨LL.length - 2, by have := hv.op.n2; omega⟩
  obtain ⟨gs, go, gH, hc, hb, hL, hC⟩ := made_cr h (by omega)
  have x0 : w.cell? ⟨gL, 0, none⟩ = some (ptr gs) := by rw [cell_of_row w _ _ _ 102 (0, 0) hL]; rfl
  rw [hm] at hC
  have HLT := Lib.hid (levelTargets_any gs go gH m hc hb (szs LL) o.lt o.tt o.bl o.bt o.mt w hC (by have := hv.op.n7; omega) (fun j hj => ⟨(szs_bound hv (by omega)).1, (szs_bound hv (by omega)).2.1⟩) ⟨hv.op.lt1, hv.op.lt2⟩ ⟨hv.op.tt1, hv.op.tt2⟩ ⟨hv.op.bl1, hv.op.bl2⟩ ⟨hv.op.bt1, hv.op.bt2⟩ ⟨hv.op.mt1, hv.op.mt2⟩)
  have HM := Lib.hid hm
  rw [hm]
  clear h hv hL hC hm
  go_enter Try.func32, Try.ntmps32
  go_upto_region 2 with (go_at_call 46; refine HLT.out.mono ?_; rintro e w5 ⟨b, gA, gB, rfl, q1, q2, q3, q4⟩; have Q1 := Lib.hid q1; have Q2 := Lib.hid q2; have Q3 := Lib.hid q3; have Q4 := Lib.hid q4; clear q1 q2 q3 q4)
  go_quiet (fail)
  go_wp2_with fail
  go_ret3
  have t : Tch [] w5 (w5.alloc (.cells #[.int .i64 b, .slice (some ⟨gA, 0, none⟩) (m + 2) (m + 2), .slice (some ⟨gB, 0, none⟩) (m + 2) (m + 2)] 98)) := (Tch.refl _ _).alloc _
  refine ⟨b, gA, gB, rfl, ?_, ?_, ?_, (Q4.out.trans t).drewN _⟩
  · have := t.obj Q1.out (by simp)
    unfold tgs
    rw [HM.out]
    exact this
  · exact t.obj Q2.out (by simp)
  · unfold Based tgs
    rw [HM.out]
    exact Q3.out

end Go.Proofs.Ytdofgamahjmohaa
