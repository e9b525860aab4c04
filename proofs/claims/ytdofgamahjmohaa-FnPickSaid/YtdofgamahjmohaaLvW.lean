/- (*levelHandler).initTables: the walk. -/
import Derived.Test.YtdofgamahjmohaaLvU
namespace Go.Proofs.Ytdofgamahjmohaa
open Go.Shelf Go.RowKit
set_option maxRecDepth 100000

/-- Tables by a slice of pointers, nil too. -/
structure PtsV (W : World) (A : Option Addr) (n c : Nat) (ps : List (Nat × Tb)) : Prop where
  row : W.ownsRow 0 124 1 (.slice A n c) n (ps.map (fun p => ptr p.1))
  box : ∀ p ∈ ps, PtBox W p.1 p.2 ∧ p.2.good
theorem PtsV.len {W : World} {A : Option Addr} {n c : Nat} {ps : List (Nat × Tb)} (h : PtsV W A n c ps) : ps.length = n := by
  have := h.row.1
  rw [List.length_map] at this
  omega

theorem PtBox.keep {W W' : World} {g : Nat} {t : Tb} {S : List Nat} {e' : TypeId} (h : PtBox W g t) (k : Tch S W W') (hS : ∀ b ∈ S, ∃ cur fr, W.heap[b]? = some (.cells cur e' fr)) (h1 : 94 ≠ e') (h2 : 5 ≠ e') : PtBox W' g t := by
  obtain ⟨g1, g2, q1, q2, q3⟩ := h.out
  refine ⟨g1, g2, k.obj q1 (fun hm => ?_), row_keep q2 k hS h2, row_keep q3 k hS h2⟩
  obtain ⟨cur, fr, hb⟩ := hS g hm
  exact absurd rfl (cells_ne q1 hb h1)
theorem PtsV.keep {W W' : World} {A : Option Addr} {n c : Nat} {ps : List (Nat × Tb)} {S : List Nat} {e' : TypeId} (h : PtsV W A n c ps) (k : Tch S W W') (hS : ∀ b ∈ S, ∃ cur fr, W.heap[b]? = some (.cells cur e' fr)) (h1 : 94 ≠ e') (h2 : 5 ≠ e') (h3 : 124 ≠ e') : PtsV W' A n c ps :=
  ⟨row_keep h.row k hS h3, fun p hp => ⟨(h.box p hp).1.keep k hS h1 h2, (h.box p hp).2⟩⟩
theorem PtsV.tch {W W' : World} {A : Option Addr} {n c : Nat} {ps : List (Nat × Tb)} (h : PtsV W A n c ps) (k : Tch [] W W') : PtsV W' A n c ps :=
  ⟨k.own h.row (by simp), fun p hp => ⟨(h.box p hp).1.tch k, (h.box p hp).2⟩⟩

/-- Tables in the order in which a level has them. -/
def InOrd (z : Bool) (ts : List Tb) : Prop := ∀ i j, i < j → j < ts.length → if z then (ts.getD i default).num < (ts.getD j default).num else kcmp (ts.getD i default).k1 (ts.getD j default).k1 < 0

theorem sort_any (W : World) (h n c bx : Nat) (A : Option Addr) (ps : List (Nat × Tb)) (tot stl lvl : Int) (op : Value) (z : Bool) (hp : PtsV W A n c ps) (hh : HCells W h A n c tot stl lvl op) (hb : W.heap[bx]? = some (.cells #[ptr h] 104 (0, 0))) (h30 : n ≤ 30) (hs : InOrd z (ps.map (·.2))) :
    Calls Try.prog 65 #[.iface 121 (.slice A n c), .func (.func (if z then 66 else 68)) #[] #[ptr bx]] W fun e w' => e = .returned (.tuple #[]) ∧ Tch [] W w' := by
  by_cases h2 : 2 ≤ n
  · obtain ⟨g, cap, rfl, -⟩ : ∃ g cap, A = some ⟨g, 0, none⟩ ∧ cap = c := by
      obtain ⟨g, cap, e, -⟩ := ownsRow_value hp.row (by omega)
      simp only [Value.slice.injEq] at e
      exact ⟨g, c, e.1, rfl⟩
    have hpl := hp.len
    have hgd : ∀ i, i < n → (ps.map (·.2)).getD i default = (ps.getD i default).2 := fun i hi => by
      simp [List.getD, List.getElem?_eq_getElem (show i < ps.length by omega)]
    cases z with
    | true =>
      refine sort0_many W h g n c bx ps tot stl lvl op ⟨hp.row, hp.box⟩ hh hb h2 h30 (fun i j hij hj => ?_)
      have := hs i j hij (by rw [List.length_map]; omega)
      rw [hgd i (by omega), hgd j hj] at this
      exact this
    | false =>
      refine sort1_many W h g n c bx ps tot stl lvl op ⟨hp.row, hp.box⟩ hh hb h2 h30 (fun i j hij hj => ?_)
      have := hs i j hij (by rw [List.length_map]; omega)
      rw [hgd i (by omega), hgd j hj] at this
      simpa using this
  · exact sort_tiny W A n c (by omega) _ _

theorem tsum_succ {f : Tb → Int} {ps : List (Nat × Tb)} {k : Nat} (h : k < ps.length) : tsum f ((ps.map (·.2)).take (k + 1)) = tsum f ((ps.map (·.2)).take k) + f (ps.getD k default).2 := by
  have h' : k < (ps.map (·.2)).length := by rw [List.length_map]; exact h
  unfold tsum
  rw [take_getD _ default h', List.map_append, List.sum_append]
  simp [List.getD, List.getElem?_eq_getElem h]

theorem tsum_bound {f : Tb → Int} {B : Int} : ∀ {ts : List Tb}, (∀ t ∈ ts, 0 ≤ f t ∧ f t ≤ B) → 0 ≤ tsum f ts ∧ tsum f ts ≤ ts.length * B
  | [], _ => by simp [tsum]
  | t :: ts, h => by
    have h1 := h t (by simp)
    have h2 := tsum_bound (f := f) (ts := ts) (fun x hx => h x (List.mem_cons_of_mem _ hx))
    have e : tsum f (t :: ts) = f t + tsum f ts := by simp [tsum]
    rw [e, List.length_cons]
    have : ((ts.length + 1 : Nat) : Int) * B = ts.length * B + B := by rw [Int.natCast_succ, Int.add_mul, Int.one_mul]
    rw [this]
    omega

end Go.Proofs.Ytdofgamahjmohaa
