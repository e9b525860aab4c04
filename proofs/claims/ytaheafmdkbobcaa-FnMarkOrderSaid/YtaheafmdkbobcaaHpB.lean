/- Push and Pop of uint64Heap over its box. -/
import Derived.Test.YtaheafmdkbobcaaHpA
namespace Go.Proofs.Ytaheafmdkbobcaa
open Go.RowKit

theorem Try.info28 : (Try.prog.info? 28).map (fun i => (i.zero, i.size, i.bytes)) = some (some (.int .u64 0), 1, 8) := by kernel_rfl

/-- The heap's box: it holds a slice that owns the numbers xs. -/
structure HeapAt (w : World) (ib : Nat) (v : Value) (xs : List Int) : Prop where
  box : w.heap[ib]? = some (.cells #[v] 61 (0, 0))
  own : w.ownsRow 0 28 1 v xs.length (U xs)

theorem HeapAt.ne {w : World} {ib : Nat} {v : Value} {xs : List Int} (h : HeapAt w ib v xs) : ∀ g, v.ownBlock = some g → g ≠ ib := by
  intro g hg e
  obtain ⟨cur, hc⟩ := ownsRow_block h.own hg
  have := h.box
  rw [← e, hc] at this
  simp at this

theorem HeapAt.tch {w w' : World} {ib : Nat} {v : Value} {xs : List Int} {S : List Nat} (h : HeapAt w ib v xs) (t : Tch S w w') (h1 : ib ∉ S) (h2 : ∀ g, v.ownBlock = some g → g ∉ S) : HeapAt w' ib v xs :=
  ⟨t.cells h.box h1, t.own h.own h2⟩

set_option maxHeartbeats 400000 in
theorem len_any (a : Option Addr) (n c : Nat) (w : World) : Calls Try.prog 59 #[.slice a n c] w fun e w' => e = .returned (.int .i64 n) ∧ w = w' := by
  go_enter Try.func59, Try.ntmps59
  go_wp2
  go_ret
  exact ⟨rfl, rfl⟩

/-- An owned row without its last element. -/
theorem ownsRow_cut {w : World} {b e g n cap : Nat} {xs : List Value} (h : w.ownsRow b e 1 (.slice (some ⟨g, 0, none⟩) (n + 1) cap) (n + 1) xs) : w.ownsRow b e 1 (.slice (some ⟨g, 0, none⟩) n cap) n (xs.take n) := by
  have hl := h.1
  refine ⟨by rw [List.length_take]; omega, ?_⟩
  rcases h.2 with ⟨h', _⟩ | ⟨g', cap', cur, h', hb, hg, hnc, hcm, hcs, htake⟩
  · simp at h'
  · simp only [Value.slice.injEq, Option.some.injEq, Addr.mk.injEq, and_true, true_and] at h'
    obtain ⟨rfl, rfl⟩ := h'
    refine .inr ⟨g, cap, cur, rfl, hb, hg, by omega, hcm, hcs, ?_⟩
    rw [← htake, List.take_take]
    congr 1
    omega

theorem one_set {w : World} {b : Nat} {v u : Value} {t : TypeId} (h : w.heap[b]? = some (.cells #[v] t (0, 0))) : (w.setCell ⟨b, 0, none⟩ u).heap[b]? = some (.cells #[u] t (0, 0)) := by
  have := heap_setCell_same w b 0 #[v] t u h
  simpa using this

set_option maxHeartbeats 400000 in
theorem hpop_any (ib g n cap : Nat) (xs : List Int) (w : World) (hn : xs.length = n + 1) (h : HeapAt w ib (.slice (some ⟨g, 0, none⟩) (n + 1) cap) xs) (hcap : n + 1 ≤ cap) (hmx : n + 1 ≤ 140737488351232) :
    Calls Try.prog 62 #[.pointer (some ⟨ib, 0, none⟩)] w fun e w' => e = .returned (.iface 28 (.int .u64 (xs.getD n 0))) ∧
      HeapAt w' ib (.slice (some ⟨g, 0, none⟩) n cap) (xs.take n) ∧ Tch [ib] w w' := by
  have hne := h.ne g rfl
  obtain ⟨hb, hown⟩ := h
  have K : HeapAt (w.setCell ⟨ib, 0, none⟩ (.slice (some ⟨g, 0, none⟩) n cap)) ib (.slice (some ⟨g, 0, none⟩) n cap) (xs.take n) ∧ Tch [ib] w (w.setCell ⟨ib, 0, none⟩ (.slice (some ⟨g, 0, none⟩) n cap)) := by
    have T : Tch [ib] w (w.setCell ⟨ib, 0, none⟩ (.slice (some ⟨g, 0, none⟩) n cap)) := (Tch.refl _ _).setCell (p := ⟨ib, 0, none⟩) (fun _ => by simp) _
    rw [hn] at hown
    refine ⟨⟨one_set hb, ?_⟩, T⟩
    have h2 := ownsRow_cut hown
    have e : (xs.take n).length = n := by rw [List.length_take]; omega
    rw [e, show U (xs.take n) = (U xs).take n by simp [U, List.map_take]]
    exact T.own h2 (by simp [Value.ownBlock]; exact hne)
  rw [hn] at hown
  have HK := Lib.hid K
  have c0 := cell_of_one hb
  have f0 := free_of_one hb
  have c1 := cellOf hown (i := n) (by omega)
  have h1 : (n : Int) + 1 - 1 = n := by omega
  clear K hown hn
  generalize xs.getD n 0 = x at c1 ⊢
  go_enter Try.func62, Try.ntmps62
  go_wp2
  go_ret
  exact ⟨rfl, HK.out⟩

theorem HeapAt.alloc {w : World} {ib : Nat} {v : Value} {xs : List Int} (h : HeapAt w ib v xs) (o : Obj) : HeapAt (w.alloc o) ib v xs :=
  h.tch ((Tch.refl [] _).alloc o) (by simp) (by simp)

theorem ta_u64 (x : Int) (w : World) : Sem.run Try.prog (Instr.typeAssert (.iface 28 (.int .u64 x)) 20 28 false) w = .ok (.int .u64 x) w := by kernel_rfl

set_option maxHeartbeats 400000 in
theorem hpush_any (ib : Nat) (v : Value) (x : Int) (xs : List Int) (w : World) (h : HeapAt w ib v xs) (hmx : xs.length ≤ 10000000) :
    Calls Try.prog 63 #[.pointer (some ⟨ib, 0, none⟩), .iface 28 (.int .u64 x)] w fun e w' => e = .returned (.tuple #[]) ∧
      ∃ v', HeapAt w' ib v' (xs ++ [x]) ∧ Tch (ib :: v.ownBlock.toList) w w' ∧ (v'.ownBlock = v.ownBlock ∨ ∃ k, v'.ownBlock = some k ∧ w.heap.size ≤ k) := by
  obtain ⟨i0, hi, hz0, hz1, hz2⟩ := info_parts Try.info28
  have hne := h.ne
  have hlt := lt_of_obj h.box
  obtain ⟨hb, hown⟩ := h
  obtain ⟨ad, cp, rfl⟩ := ownsRow_slice hown
  have c0 := cell_of_one hb
  have f0 := free_of_one hb
  have hta := ta_u64 x
  have K : ∀ v' w1, w1.ownsRow 0 28 1 v' (xs.length + 1) (U xs ++ [.int .u64 x]) → (w.drew.alloc (.cells #[.int .u64 x] 28)).grownBy w1 (Value.slice ad xs.length cp).ownBlock → (v'.ownBlock = (Value.slice ad xs.length cp).ownBlock ∨ v'.ownBlock = some (w.drew.alloc (.cells #[.int .u64 x] 28)).heap.size) →
      w1.cell? ⟨ib, 0, none⟩ = some (.slice ad xs.length cp) ∧ w1.frozen? ⟨ib, 0, none⟩ = false ∧ (∃ g c, v' = .slice (some ⟨g, 0, none⟩) (xs.length + 1) c) ∧
      ∃ v'', HeapAt (w1.setCell ⟨ib, 0, none⟩ v') ib v'' (xs ++ [x]) ∧ Tch (ib :: (Value.slice ad xs.length cp).ownBlock.toList) w (w1.setCell ⟨ib, 0, none⟩ v') ∧ (v''.ownBlock = (Value.slice ad xs.length cp).ownBlock ∨ ∃ k, v''.ownBlock = some k ∧ w.heap.size ≤ k) := by
    intro v' w1 ho hg hloc
    have T0 : Tch [] w (w.drew.alloc (.cells #[.int .u64 x] 28)) := ((Tch.refl _ _).drew).alloc _
    have T1 : Tch (Value.slice ad xs.length cp).ownBlock.toList w w1 := (T0.mono (by simp)).grown hg (by intro k hk _; rw [hk]; simp)
    have hb1 := T1.cells hb (by intro hm; cases hob : (Value.slice ad xs.length cp).ownBlock with
      | none => rw [hob] at hm; simp at hm
      | some g => rw [hob] at hm; simp at hm; exact hne g hob hm.symm)
    obtain ⟨g, c, hv', -, hgl⟩ := ownsRow_value ho (by omega)
    have hgib : g ≠ ib := by
      intro e
      obtain ⟨cur, hc⟩ := ownsRow_block ho (g := g) (by rw [hv']; rfl)
      rw [e, hb1] at hc; simp at hc
    refine ⟨cell_of_one hb1, free_of_one hb1, ⟨g, c, hv'⟩, v', ⟨one_set hb1, ?_⟩, ?_, ?_⟩
    · have T2 : Tch [ib] w1 (w1.setCell ⟨ib, 0, none⟩ v') := (Tch.refl _ _).setCell (p := ⟨ib, 0, none⟩) (fun _ => by simp) _
      have := T2.own ho (by rw [hv']; simp [Value.ownBlock]; exact hgib)
      simpa [U] using this
    · exact (T1.mono (fun _ _ h => by simp [h])).setCell (p := ⟨ib, 0, none⟩) (fun _ => by simp) _
    · rcases hloc with h | h
      · exact .inl h
      · exact .inr ⟨_, h, by simp⟩
  have HK := Lib.hid K
  have HO := Lib.hid hown
  clear K hown hne hb
  go_enter Try.func63, Try.ntmps63
  go_wp2
  go_region_law (refine step_append_own rfl (.tmp 7) (.tmp 10) 61 rfl 0 28 i0 (.int .u64 0) 1 8 Try.underlying61 hi hz0 hz1 hz2 rfl (by decide) (.slice ad xs.length cp) _ _ (by simp [Act.eval]) (HO.out.alloc _) ⟨w.heap.size, 0, none⟩ 1 1 [.int .u64 x] (by simp [Act.eval]) rfl (cell_one_new _ _ _) (by simp [Value.oneCell']) (by unfold maxLen; omega) (by omega) (Nat.zero_le _) ?_; intro v' w1 ho hg hloc; obtain ⟨k0, k1, ⟨g, c, rfl⟩, v'', hk⟩ := HK.out _ _ ho hg hloc; have HK2 := Lib.hid hk; clear hk ho hg hloc)
  all_goals (go_end0; exact ⟨rfl, _, HK2.out⟩)

end Go.Proofs.Ytaheafmdkbobcaa
