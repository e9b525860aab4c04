/- spec's finish: its steps in memory. -/
import Derived.Test.YtaheafmdkbobcaaSpecD
namespace Go.Proofs.Ytaheafmdkbobcaa
open Go.RowKit

/-- The state with other indices and another mark. -/
def withPl (q : MSt × List Int) (all : List Cn) (til : Int) : MSt × List Int := ({ q.1 with pl := plOf all, til := til }, q.2)

/-- An index is done once more. -/
theorem fin_put {w w1 : World} {tb g c : Nat} {vw : Value} {all : List Cn} {N : Nat} {q : MSt × List Int} {x b d : Int} {i : Nat} (h : SpD w tb (.slice (some ⟨g, 0, none⟩) all.length c) vw all N q) (ht : Tch [] w w1) (hp : all[i]? = some (x, b, d)) (hd : d < b) :
    SpD (w1.setCell ⟨g, i * 3 + 2, none⟩ (.int .i64 (d + 1))) tb (.slice (some ⟨g, 0, none⟩) (all.set i (x, b, d + 1)).length c) vw (all.set i (x, b, d + 1)) N (withPl q (all.set i (x, b, d + 1)) q.1.til) ∧ Tch [g] w1 (w1.setCell ⟨g, i * 3 + 2, none⟩ (.int .i64 (d + 1))) ∧
      plOf (all.set i (x, b, d + 1)) = putC q.1.pl x ((cnt? q.1.pl x).getD 0 - 1) := by
  obtain ⟨td5, T5⟩ := (h.td.tch ht (by simp)).put hp (j := 2) (by omega) (.int .i64 (d + 1)) (q := (x, b, d + 1)) rfl
  have hcn := h.cn _ (List.mem_of_getElem? hp)
  simp only at hcn
  refine ⟨⟨td5, rfl, ?_, by rw [set_keys (r := (x, b, d + 1)) hp rfl]; exact h.nd, by rw [List.length_set]; exact h.len, h.wlen⟩, T5, ?_⟩
  · intro p hp'
    rcases List.mem_or_eq_of_mem_set hp' with hp' | rfl
    · exact h.cn p hp'
    · simp only; omega
  · have e := plOf_set h.nd hp (r := (x, b, d + 1)) rfl
    simp only at e
    rw [e, h.pl, cnt_plOf_some h.nd (List.mem_of_getElem? hp) rfl]
    simp only [Option.getD_some]
    congr 1; omega

/-- Where finish stands between two rounds. -/
structure FinAt (w : World) (tb : Nat) (fp : List Nat) (N : Nat) (q : MSt × List Int) (vw : Value) (fin : List (Int × Int) × Int) (a : Option Addr) (c : Nat) (all : List Cn) (til : Int) (n : Nat) (wr : World) : Prop where
  sp : SpD wr tb (.slice a all.length c) vw all N (withPl q all til)
  le : all.length ≤ n
  dr : drainP n (plOf all) til = fin
  t : Tch fp w wr
  foot : ∀ k ∈ tfoot tb (.slice a all.length c) vw, k ∈ fp ∨ w.heap.size ≤ k

theorem FinAt.tch {w wr wi : World} {tb : Nat} {fp : List Nat} {N : Nat} {q : MSt × List Int} {vw : Value} {fin : List (Int × Int) × Int} {a : Option Addr} {c : Nat} {all : List Cn} {til : Int} {n : Nat} (h : FinAt w tb fp N q vw fin a c all til n wr) (t : Tch [] wr wi) : FinAt w tb fp N q vw fin a c all til n wi :=
  ⟨h.sp.tch t (by simp), h.le, h.dr, h.t.then t (by simp), h.foot⟩

theorem FinAt.stop {w wr : World} {tb : Nat} {fp : List Nat} {N : Nat} {q : MSt × List Int} {vw : Value} {fin : List (Int × Int) × Int} {a : Option Addr} {c : Nat} {all : List Cn} {til : Int} {n : Nat} (h : FinAt w tb fp N q vw fin a c all til n wr) (hf : fin = (plOf all, til)) :
    LeavesT w tb fp N ({ q.1 with pl := fin.1, til := fin.2 }, q.2) wr := by
  subst hf
  exact ⟨_, ⟨_, _, all, h.sp, fun k hk => hk⟩, h.foot, h.t⟩

theorem FinAt.empty {w wr : World} {tb : Nat} {fp : List Nat} {N : Nat} {q : MSt × List Int} {vw : Value} {fin : List (Int × Int) × Int} {a : Option Addr} {c : Nat} {all : List Cn} {til : Int} {n : Nat} (h : FinAt w tb fp N q vw fin a c all til n wr) (h0 : all.length = 0) : fin = (plOf all, til) := by
  have e : all = [] := List.eq_nil_of_length_eq_zero h0
  subst e
  rw [← h.dr]; exact drain_nil n til

theorem FinAt.least {w wr : World} {tb : Nat} {fp : List Nat} {N : Nat} {q : MSt × List Int} {vw : Value} {fin : List (Int × Int) × Int} {a : Option Addr} {c : Nat} {all : List Cn} {til : Int} {n m : Nat} {p : Cn} (h : FinAt w tb fp N q vw fin a c all til n wr) (hp : all[m]? = some p) (hl : ∀ j s, j < all.length → all[j]? = some s → p.1 ≤ s.1) (hd : p.2.2 < p.2.1) : fin = (plOf all, til) := by
  rw [← h.dr]
  exact drain_stop (by rw [plOf_keys]; exact h.sp.nd) (plOf_mem (List.mem_of_getElem? hp)) (least_pl hl) (by simp only; omega) n til

/-- What is left behind the least one. -/
theorem FinAt.step {w wr w1 : World} {tb : Nat} {fp : List Nat} {N : Nat} {q : MSt × List Int} {vw v' : Value} {fin : List (Int × Int) × Int} {a : Option Addr} {c : Nat} {all : List Cn} {til : Int} {n m l : Nat} {p : Cn} (h : FinAt w tb fp N q vw fin a c all til n wr) (hfp : tb ∈ fp) (hp : all[m]? = some p) (hl : ∀ j s, j < all.length → all[j]? = some s → p.1 ≤ s.1) (hd : ¬ p.2.2 < p.2.1)
    (ht : Tch [] (wr.setCell ⟨tb, 1, none⟩ (.int .u64 p.1)) w1) (hlen : l = all.length - 1) (ho : w1.ownsRow 0 69 3 v' l ((all.take m ++ all.drop (m + 1)).flatMap cCells)) (hn : ∀ k, v'.ownBlock = some k → wr.heap.size ≤ k) :
    w1.cell? ⟨tb, 0, none⟩ = some (.slice a all.length c) ∧ w1.frozen? ⟨tb, 0, none⟩ = false ∧ ∃ a' c' all' n', v' = .slice a' l c' ∧ all'.length = l ∧ l < all.length ∧ FinAt w tb fp N q vw fin a' c' all' p.1 n' (w1.setCell ⟨tb, 0, none⟩ (.slice a' l c')) := by
  have hm : m < all.length := (List.getElem?_eq_some_iff.1 hp).1
  obtain ⟨td1, T1⟩ := h.sp.td.set1 p.1
  have td2 := td1.tch ht (by simp)
  obtain ⟨a', c', rfl⟩ := ownsRow_slice ho
  have hs4 := heap_setCell_same w1 tb 0 _ 44 (.slice a' l c') td2.str
  have T4 : Tch [tb] w1 (w1.setCell ⟨tb, 0, none⟩ (.slice a' l c')) := (Tch.refl _ _).setCell (p := ⟨tb, 0, none⟩) (fun _ => by simp) _
  have hll : (all.take m ++ all.drop (m + 1)).length = l := by rw [List.length_append, List.length_take, List.length_drop]; omega
  have hef := erase_filterC h.sp.nd hp
  have hsub : (all.take m ++ all.drop (m + 1)).Sublist all := by rw [hef]; exact List.filter_sublist
  refine ⟨by rw [cell_of_row w1 _ _ _ 44 (0, 0) td2.str]; rfl, frozen_of_row w1 _ 0 _ 44 td2.str, a', c', all.take m ++ all.drop (m + 1), n - 1, rfl, hll, by omega, ⟨⟨⟨?_, ?_, ?_⟩, rfl, fun r hr => h.sp.cn r (hsub.subset hr), (hsub.map Prod.fst).nodup h.sp.nd, Nat.le_trans hsub.length_le h.sp.len, h.sp.wlen⟩, by have := h.le; omega, ?_, ?_, ?_⟩⟩
  · rw [hll]; simpa [withPl] using hs4
  · rw [hll]
    exact T4.own ho (fun k hk hm => by
      obtain ⟨cur, hc⟩ := ownsRow_block ho hk
      exact cells_ne hc td2.str (by decide) (List.mem_singleton.1 hm))
  · exact T4.own td2.wrow (fun k hk hm => td2.ne_w hk (List.mem_singleton.1 hm))
  · have hn1 : n = (n - 1) + 1 := by have := h.le; omega
    rw [← h.dr]
    conv => rhs; rw [hn1]
    rw [drain_go (by rw [plOf_keys]; exact h.sp.nd) (plOf_mem (List.mem_of_getElem? hp)) (least_pl hl) (by simp only; omega), hef, plOf_filter]
  · refine ((h.t.then T1 (fun i _ hm => by rw [List.mem_singleton.1 hm]; exact hfp)).then ht (fun i _ hm => by simp at hm)).then T4 (fun i _ hm => by rw [List.mem_singleton.1 hm]; exact hfp)
  · intro k hk
    rcases mem_tfoot.1 hk with rfl | hk | hk
    · exact .inl hfp
    · right
      have := hn k (by rw [hll] at hk; exact hk)
      have := h.t.size
      omega
    · exact h.foot k (mem_tfoot.2 (.inr (.inr hk)))

end Go.Proofs.Ytaheafmdkbobcaa
