/- spec's waiting, and its steps that wait or set the mark. -/
import Derived.Test.YtaheafmdkbobcaaSpecE
namespace Go.Proofs.Ytaheafmdkbobcaa
open Go.RowKit

/-- How many wait that are not done. -/
def cntW (ws : List Int) (til : Int) : Nat := (ws.filter (fun i => !decide (i ≤ til))).length

theorem cntW_step {ws : List Int} {til : Int} {k : Nat} (hk : k < ws.length) : cntW (ws.take (k + 1)) til = cntW (ws.take k) til + if ws.getD k 0 ≤ til then 0 else 1 := by
  unfold cntW
  rw [take_getD ws 0 hk, List.filter_append, List.length_append]
  congr 1
  by_cases h : ws.getD k 0 ≤ til
  · rw [if_pos h, List.filter_cons_of_neg (by simpa using h)]; rfl
  · rw [if_neg h, List.filter_cons_of_pos (by simpa using h)]; rfl

theorem cntW_le (ws : List Int) (til : Int) : cntW ws til ≤ ws.length := List.length_filter_le _ _

set_option maxHeartbeats 400000 in
theorem swaiting_any (tb : Nat) (va vw : Value) (all : List Cn) (til last : Int) (ws : List Int) (w : World) (hl : ws.length ≤ 100000) (h : TdAt w tb va vw all til last ws) :
    Calls Try.prog 19 #[ptr tb] w fun e w' => e = .returned (.int .i64 (cntW ws til)) ∧ w = w' := by
  obtain ⟨c0, c1, c2, c3, fz⟩ := h.facts
  obtain ⟨a, c, rfl⟩ := ownsRow_slice h.wrow
  have HT := Lib.hid h
  clear h fz c0 c2
  go_enter Try.func19, Try.ntmps19
  go_wp2_with fail
  go_loopg [3, 11] ws.length (fun n s3 s11 wr => ∃ (k m : Nat), k ≤ ws.length ∧ n = ws.length - k ∧ s11 = .int .i64 k ∧ s3 = .int .i64 m ∧ m ≤ k ∧ Hid (m = cntW (ws.take k) til) ∧ Hid (w = wr))
  case atStart => exact ⟨0, 0, Nat.zero_le _, rfl, rfl, rfl, Nat.le_refl _, Lib.hid rfl, Lib.hid rfl⟩
  case round =>
    obtain ⟨k, m, hk, rfl, rfl, rfl, hmk, HM, HW⟩ := hrel
    obtain rfl := HW.out
    by_cases hlt : k < ws.length
    · obtain ⟨g, c', e, -, hg⟩ := ownsRow_value HT.out.wrow (by omega)
      simp only [Value.slice.injEq, true_and] at e
      obtain ⟨rfl, rfl⟩ := e
      have k0 := cellOf HT.out.wrow hlt
      have hlt3 : (k : Int) < ws.length := by omega
      have hst := cntW_step (til := til) hlt
      generalize ws.getD k 0 = x at k0 hst
      have hm5 : (m : Int) ≤ 100000 := by omega
      by_cases hx : x ≤ til
      · rw [if_pos hx] at hst
        have t0 : decide (til < x) = false := by simpa using hx
        have HM2 := Lib.hid (show m = cntW (ws.take (k + 1)) til by have := HM.out; omega)
        clear hst hx hlt
        go_wp2_with fail
        go_roundg (ws.length - (k + 1))
        case rel => exact ⟨k + 1, m, by omega, rfl, by go_num, rfl, by omega, HM2, Lib.hid rfl⟩
        case measure => omega
      · rw [if_neg hx] at hst
        have t0 : decide (til < x) = true := by simp; omega
        have HM2 := Lib.hid (show m + 1 = cntW (ws.take (k + 1)) til by have := HM.out; omega)
        clear hst hx hlt
        go_wp2_with fail
        go_roundg (ws.length - (k + 1))
        case rel => exact ⟨k + 1, m + 1, by omega, rfl, by go_num, by go_num, by omega, HM2, Lib.hid rfl⟩
        case measure => omega
    · obtain rfl : k = ws.length := by omega
      have hm2 : m = cntW ws til := by have := HM.out; rw [List.take_length] at this; exact this
      have HM2 := Lib.hid hm2
      clear hm2 hlt hk hmk HM
      go_wp2_with fail
      go_ret
      exact ⟨by rw [← HM2.out]; rfl, rfl⟩

/-- An index is put behind those that wait. -/
theorem wait_put {w w1 : World} {tb : Nat} {fp : List Nat} {va vw v' : Value} {all : List Cn} {N : Nat} {q : MSt × List Int} {x : Int} {Wp : World} (h : SpD w tb va vw all N q) (hfp : ∀ k ∈ tfoot tb va vw, k ∈ fp) (hW : Wp.Alike (w.alloc (.cells #[.int .u64 x] 28)))
    (ho : w1.ownsRow 0 28 1 v' (q.2.length + 1) (U q.2 ++ [.int .u64 x])) (hg : Wp.grownBy w1 vw.ownBlock) (hloc : v'.ownBlock = vw.ownBlock ∨ v'.ownBlock = some Wp.heap.size) :
    w1.cell? ⟨tb, 3, none⟩ = some vw ∧ w1.frozen? ⟨tb, 3, none⟩ = false ∧ ∃ a' c', v' = .slice a' (q.2.length + 1) c' ∧ LeavesT w tb fp (N + 1) (q.1, q.2 ++ [x]) (w1.setCell ⟨tb, 3, none⟩ (.slice a' (q.2.length + 1) c')) := by
  have hobl : ∀ k ∈ vw.ownBlock.toList, vw.ownBlock = some k := fun k hk => by cases hv : vw.ownBlock <;> simp_all
  have t0 : Tch [] w Wp := Tch.alike ((Tch.refl _ _).alloc _) hW
  have T1 : Tch vw.ownBlock.toList w w1 := (t0.mono (by simp)).grown hg (fun k hk _ => by rw [hk]; simp)
  have str1 := T1.obj h.td.str (fun hm => h.td.ne_w (hobl _ hm) rfl)
  have arow1 := T1.own h.td.arow (fun k hk hm => h.td.ne_aw hk (hobl _ hm) rfl)
  obtain ⟨a', c', rfl⟩ := ownsRow_slice ho
  have hs4 := heap_setCell_same w1 tb 3 _ 44 (.slice a' (q.2.length + 1) c') str1
  have T4 : Tch [tb] w1 (w1.setCell ⟨tb, 3, none⟩ (.slice a' (q.2.length + 1) c')) := (Tch.refl _ _).setCell (p := ⟨tb, 3, none⟩) (fun _ => by simp) _
  have hnew : ∀ k, (Value.slice a' (q.2.length + 1) c').ownBlock = some k → k ≠ tb ∧ (k ∈ fp ∨ w.heap.size ≤ k) := by
    intro k hk
    obtain ⟨cur, hc⟩ := ownsRow_block ho hk
    refine ⟨cells_ne hc str1 (by decide), ?_⟩
    rcases hloc with e | e
    · rw [e] at hk; exact .inl (hfp k (mem_tfoot.2 (.inr (.inr hk))))
    · rw [e] at hk
      have hk : Wp.heap.size = k := by simpa using hk
      have := t0.size; right; omega
  refine ⟨by rw [cell_of_row w1 _ _ _ 44 (0, 0) str1]; rfl, frozen_of_row w1 _ 3 _ 44 str1, a', c', rfl, _, ⟨va, .slice a' (q.2.length + 1) c', all, ⟨⟨by simpa using hs4, ?_, ?_⟩, h.pl, fun p hp => by have := h.cn p hp; omega, h.nd, by have := h.len; omega, ?_⟩, fun k hk => hk⟩, ?_, ?_⟩
  · exact T4.own arow1 (fun k hk hm => h.td.ne_a hk (List.mem_singleton.1 hm))
  · have := T4.own ho (fun k hk hm => (hnew k hk).1 (List.mem_singleton.1 hm))
    simpa [U] using this
  · have := h.wlen; simp; omega
  · intro k hk
    rcases mem_tfoot.1 hk with rfl | hk | hk
    · exact .inl (hfp _ (mem_tfoot.2 (.inl rfl)))
    · exact .inl (hfp _ (mem_tfoot.2 (.inr (.inl hk))))
    · exact (hnew k hk).2
  · exact (T1.mono (T := fp) (fun k _ hm => hfp k (mem_tfoot.2 (.inr (.inr (hobl k hm)))))).then T4 (fun k _ hm => by rw [List.mem_singleton.1 hm]; exact hfp _ (mem_tfoot.2 (.inl rfl)))

/-- The mark is set. -/
theorem set_put {w : World} {tb : Nat} {fp : List Nat} {va vw : Value} {all : List Cn} {N : Nat} {q : MSt × List Int} {x : Int} (h : SpD w tb va vw all N q) (hfp : ∀ k ∈ tfoot tb va vw, k ∈ fp) : LeavesT w tb fp (N + 1) ({ q.1 with til := x }, q.2) (w.setCell ⟨tb, 1, none⟩ (.int .u64 x)) := by
  obtain ⟨td, t⟩ := h.td.set1 x
  exact ⟨_, ⟨va, vw, all, ⟨td, h.pl, fun p hp => by have := h.cn p hp; omega, h.nd, by have := h.len; omega, by have := h.wlen; show q.2.length ≤ _; omega⟩, fun k hk => hk⟩, fun k hk => .inl (hfp k hk), t.mono (fun k _ hm => by rw [List.mem_singleton.1 hm]; exact hfp _ (mem_tfoot.2 (.inl rfl)))⟩

end Go.Proofs.Ytaheafmdkbobcaa
