/- Steps that a law appends one after the other; the steps of FnMarkTwice. -/
import Derived.Test.YtaheafmdkbobcaaSetP
namespace Go.Proofs.Ytaheafmdkbobcaa
open Go.RowKit

theorem Try.info31 : (Try.prog.info? 31).map (fun i => (i.zero, i.size, i.bytes)) = some (some (.agg #[.int .i64 0, .int .u64 0, .slice none 0 0]), 3, 40) := by kernel_rfl

/-- Steps in a slice of their own. -/
structure StepsRow (w wr : World) (g n c : Nat) (L : List Stp) : Prop where
  row : wr.ownsRow 0 31 3 (.slice (some ⟨g, 0, none⟩) n c) n (L.flatMap stpCells)
  len : L.length = n
  t : Tch [] w wr
  gn : w.heap.size ≤ g
  many : ∀ p ∈ L, p.many = []

theorem StepsRow.start (w wr : World) (t : Tch [] w wr) : StepsRow w (wr.alloc (.cells #[] 31)) wr.heap.size 0 0 [] :=
  ⟨row_new (w := wr) 31 3, rfl, t.alloc _, t.size, by simp⟩

theorem StepsRow.steps {w wr : World} {g n c : Nat} {L : List Stp} (h : StepsRow w wr g n c L) : StepsAt wr (some ⟨g, 0, none⟩) L := steps_own h.row h.len.symm h.many

theorem StepsRow.push {w wr : World} {g n c : Nat} {L : List Stp} (h : StepsRow w wr g n c L) (hn : n ≤ 5000) (kd ix : Int) (ty : TypeId) (t : Nat) (ht : t = wr.heap.size) :
    ∃ v w', (Builtin.append_ #[22, 22] ty #[.slice (some ⟨g, 0, none⟩) n c, .slice (some ⟨t, 0, none⟩) 1 1]).run Try.prog (wr.alloc (.cells #[.int .i64 kd, .int .u64 ix, .slice none 0 0] 31)) = .ok v w' ∧
      ∃ g' c', v = .slice (some ⟨g', 0, none⟩) (n + 1) c' ∧ StepsRow w w' g' (n + 1) c' (L ++ [⟨kd, ix, []⟩]) := by
  subst ht
  obtain ⟨i0, hi, hz0, hz1, hz2⟩ := info_parts Try.info31
  obtain ⟨v', w', hrun, ho, hg, -, hloc⟩ := run_append_own_at (P := Try.prog) (wr.alloc (.cells #[.int .i64 kd, .int .u64 ix, .slice none 0 0] 31)) 0 22 ty 31 i0 (.agg #[.int .i64 0, .int .u64 0, .slice none 0 0]) 3 40 Try.underlying22 hi hz0 hz1 hz2 rfl (by decide) _ n _ (h.row.alloc _) ⟨wr.heap.size, 0, none⟩ 1 1 (stpCells ⟨kd, ix, []⟩) rfl (fun j u hu => by
    have hb := heap_alloc_new wr (.cells #[.int .i64 kd, .int .u64 ix, .slice none 0 0] 31)
    have : (⟨wr.heap.size, 0, none⟩ : Addr).add j = ⟨wr.heap.size, j, none⟩ := by unfold Addr.add; split <;> simp_all
    rw [this, cell_of_row _ _ j _ 31 (0, 0) hb]
    simpa [stpCells] using hu) (by intro u hu; simp only [stpCells, List.mem_cons, List.not_mem_nil, or_false] at hu; rcases hu with rfl | rfl | rfl <;> rfl) (by unfold maxLen; omega) (by omega) (Nat.zero_le _)
  obtain ⟨g', c', rfl, -⟩ := ownsRow_value ho (by omega)
  refine ⟨_, w', hrun, g', c', rfl, ⟨by rw [List.flatMap_append, List.flatMap_cons, List.flatMap_nil, List.append_nil]; exact ho, by rw [List.length_append, h.len]; rfl, ?_, ?_, ?_⟩⟩
  · refine (h.t.alloc _).grown hg (fun k hk hlt => ?_)
    have hk : g = k := by simpa [Value.ownBlock] using hk
    have := h.gn
    omega
  · have h1 := h.t.size
    have h2 := h.gn
    rcases hloc with e | e
    · have e : g' = g := by simpa [Value.ownBlock] using e
      omega
    · have e : g' = (wr.alloc (.cells #[.int .i64 kd, .int .u64 ix, .slice none 0 0] 31)).heap.size := by simpa [Value.ownBlock] using e
      have h3 : (wr.alloc (.cells #[.int .i64 kd, .int .u64 ix, .slice none 0 0] 31)).heap.size = wr.heap.size + 1 := by simp
      omega
  · intro p hp
    rcases List.mem_append.1 hp with hp | hp
    · exact h.many p hp
    · rw [List.mem_singleton.1 hp]

theorem wt_plain {L : List Stp} (h : ∀ p ∈ L, p.many = []) : wt L = L.length := by
  induction L with
  | nil => rfl
  | cons p L ih =>
    have h1 := h p (by simp)
    have h2 := ih (fun q hq => h q (by simp [hq]))
    unfold wt at h2 ⊢
    simp only [List.map_cons, List.sum_cons, List.length_cons, h1, List.length_nil]
    omega

/-- impl.RunMark over a law's own steps. -/
theorem runMark_row {w wr : World} {g n c : Nat} {L : List Stp} (h : StepsRow w wr g n c L) (hn : n ≤ 5000) (hok : okRun L) :
    Calls Try.prog 15 #[.slice (some ⟨g, 0, none⟩) n c] wr fun e w' => ∃ ov outs, e = .returned ov ∧ OutAt w w' ov outs ∧ outs.map Prod.fst = (List.range n).map (fun k => tell (St L (k + 1))) := by
  have hl := h.len
  subst hl
  refine (runMark_any L (some ⟨g, 0, none⟩) c wr hok (by rw [wt_plain h.many]; exact hn) hn h.steps).mono ?_
  rintro e w' ⟨ov, outs, rfl, ho, hm⟩
  refine ⟨ov, outs, rfl, ⟨h.t.trans ho.t, ho.row, fun k hk => Nat.le_trans h.t.size (ho.rn k hk), fun p hp => ⟨(ho.dn p hp).1, fun k hk => Nat.le_trans h.t.size ((ho.dn p hp).2 k hk)⟩⟩, hm⟩

/-- The steps of FnMarkTwice. -/
def twL (x : Int) (n j : Nat) : List Stp := List.replicate n ⟨0, x, []⟩ ++ List.replicate j ⟨2, x, []⟩

theorem twL_len (x : Int) (n j : Nat) : (twL x n j).length = n + j := by simp [twL]
theorem twL_get0 (x : Int) {n j k : Nat} (hk : k < n) : (twL x n j).getD k default = ⟨0, x, []⟩ := by
  simp [twL, List.getD, List.getElem?_append, hk]
theorem twL_get2 (x : Int) {n j k : Nat} (hk : n ≤ k) (h2 : k < n + j) : (twL x n j).getD k default = ⟨2, x, []⟩ := by
  have h3 : ¬ k < n := by omega
  have h4 : k - n < j := by omega
  simp [twL, List.getD, List.getElem?_append, h3, h4]

theorem tw_St0 (x : Int) (n j : Nat) : ∀ k, k ≤ n → 1 ≤ k → St (twL x n j) k = (⟨0, x, [(x, (k : Int))], []⟩, []) := by
  intro k
  induction k with
  | zero => intro _ h; omega
  | succ k ih =>
    intro hk _
    rw [St_succ (by rw [twL_len]; omega), twL_get0 x (by omega)]
    by_cases h0 : k = 0
    · subst h0
      show stp (new0, []) ⟨0, x, []⟩ = _
      simp [stp, stpM_0, stpA, next1, putC, cnt?, new0]
    · rw [ih (by omega) (by omega)]
      simp [stp, stpM_0, stpA, next1, putC, cnt?]

theorem tw_St2 (x : Int) (n : Nat) (hn : 1 ≤ n) : ∀ i, i < n → St (twL x n n) (n + i) = (⟨0, x, [(x, ((n - i : Nat) : Int))], []⟩, []) := by
  intro i
  induction i with
  | zero => intro _; exact tw_St0 x n n n (Nat.le_refl _) hn
  | succ i ih =>
    intro hi
    show St (twL x n n) (n + i + 1) = _
    rw [St_succ (by rw [twL_len]; omega), twL_get2 x (by omega) (by omega), ih (by omega)]
    have e : ((n - i : Nat) : Int) - 1 = ((n - (i + 1) : Nat) : Int) := by omega
    have hp : 0 < n - (i + 1) := by omega
    simp only [stp, stpM_2, stpA, next1, putC, cnt?]
    simp [drainP, minKey, e, hp]

theorem tw_last (x : Int) (n : Nat) (hn : 1 ≤ n) : St (twL x n n) (2 * n) = (⟨x, x, [], []⟩, []) := by
  have e0 : 2 * n = (n + (n - 1)) + 1 := by omega
  rw [e0, St_succ (by rw [twL_len]; omega), twL_get2 x (by omega) (by omega), tw_St2 x n hn (n - 1) (by omega)]
  have e : ((n - (n - 1) : Nat) : Int) - 1 = 0 := by omega
  simp only [stp, stpM_2, stpA, next1, putC, cnt?]
  simp [drainP, minKey, e]

theorem tw_ok {x : Int} {n : Nat} (h1 : 1 ≤ x) (h2 : x < MAX) (hn : 1 ≤ n) : okRun (twL x n n) := by
  intro k hk
  rw [twL_len] at hk
  by_cases h : k < n
  · rw [twL_get0 x h]
    refine .inl ⟨rfl, ?_, h2⟩
    by_cases h0 : k = 0
    · subst h0; show (0 : Int) < x; omega
    · rw [tw_St0 x n n k (by omega) (by omega)]; show (0 : Int) < x; omega
  · rw [twL_get2 x (by omega) hk]
    obtain ⟨i, rfl⟩ : ∃ i, k = n + i := ⟨k - n, by omega⟩
    rw [tw_St2 x n hn i (by omega)]
    refine .inr (.inr (.inl ⟨rfl, ((n - i : Nat) : Int), ?_, by omega⟩))
    simp [cnt?]

theorem tw_tell {x : Int} {n : Nat} (hn : 1 ≤ n) {k : Nat} (hk : k + 1 < 2 * n) : (tell (St (twL x n n) (k + 1))).til = 0 ∧ (tell (St (twL x n n) (k + 1))).last = x ∧ (tell (St (twL x n n) (k + 1))).pend = 1 := by
  by_cases h : k + 1 ≤ n
  · rw [tw_St0 x n n _ h (by omega)]; exact ⟨rfl, rfl, rfl⟩
  · obtain ⟨i, hi⟩ : ∃ i, k + 1 = n + i := ⟨k + 1 - n, by omega⟩
    rw [hi, tw_St2 x n hn i (by omega)]; exact ⟨rfl, rfl, rfl⟩

theorem tw_end {x : Int} {n : Nat} (hn : 1 ≤ n) : (tell (St (twL x n n) (2 * n - 1 + 1))).til = x ∧ (tell (St (twL x n n) (2 * n - 1 + 1))).pend = 0 := by
  have e : 2 * n - 1 + 1 = 2 * n := by omega
  rw [e, tw_last x n hn]; exact ⟨rfl, rfl⟩

/-- A cell of what is told. -/
theorem OutAt.at {w0 w : World} {g n c : Nat} {outs : List (TR × Value)} {f : Nat → TR} (h : OutAt w0 w (.slice (some ⟨g, 0, none⟩) n c) outs) (hm : outs.map Prod.fst = (List.range n).map f) {k : Nat} (hk : k < n) :
    w.cell? ⟨g, k * 5, none⟩ = some (.int .u64 (f k).til) ∧ w.cell? ⟨g, k * 5 + 1, none⟩ = some (.int .u64 (f k).last) ∧ w.cell? ⟨g, k * 5 + 2, none⟩ = some (.int .i64 (f k).pend) ∧ w.cell? ⟨g, k * 5 + 3, none⟩ = some (.int .i64 (f k).wait) ∧
      ∃ a c', w.cell? ⟨g, k * 5 + 4, none⟩ = some (.slice a (f k).done.length c') ∧ ∀ j b, (f k).done[j]? = some b → ∃ gd, a = some ⟨gd, 0, none⟩ ∧ w.cell? ⟨gd, j, none⟩ = some (.bool b) := by
  have hl : outs.length = n := by have := congrArg List.length hm; simpa using this
  obtain ⟨p, hp⟩ : ∃ p, outs[k]? = some p := ⟨_, List.getElem?_eq_getElem (by omega)⟩
  have e : p.1 = f k := by
    have h1 : (outs.map Prod.fst)[k]? = some p.1 := by rw [List.getElem?_map, hp]; rfl
    rw [hm, List.getElem?_map, List.getElem?_range hk] at h1
    simpa using h1.symm
  have hc := fun (j : Nat) (hj : j < 5) => h.cell hl.symm hp hj
  obtain ⟨a, c', v, b⟩ := h.done (List.mem_of_getElem? hp)
  rw [e] at v b
  refine ⟨by have := hc 0 (by omega); simpa [outCells, e] using this, by have := hc 1 (by omega); simpa [outCells, e] using this, by have := hc 2 (by omega); simpa [outCells, e] using this, by have := hc 3 (by omega); simpa [outCells, e] using this, a, c', by have := hc 4 (by omega); simpa [outCells, v] using this, b⟩

theorem OutAt.shapeN {w0 w : World} {n : Nat} {ov : Value} {outs : List (TR × Value)} {f : Nat → TR} (h : OutAt w0 w ov outs) (hm : outs.map Prod.fst = (List.range n).map f) (hn : 0 < n) : ∃ g c, ov = .slice (some ⟨g, 0, none⟩) n c := by
  have hl : outs.length = n := by have := congrArg List.length hm; simpa using this
  obtain ⟨g, c, e⟩ := h.shape (by omega)
  exact ⟨g, c, by rw [e, hl]⟩

end Go.Proofs.Ytaheafmdkbobcaa
