/- Indices that are done in some order: what is told, and the lists of what has been seen. -/
import Derived.Test.YtaheafmdkbobcaaOrderP
namespace Go.Proofs.Ytaheafmdkbobcaa
open Go.RowKit

theorem orB_len (n : Nat) : (orB n).length = n := by simp [orB]
theorem orL_len (l : List Int) : (orL l.length l).length = l.length + l.length := by simp [orL, orB, orD]

theorem orB_take {n k : Nat} (h : k ≤ n) : (orB n).take k = orB k := by
  unfold orB
  rw [← List.map_take, List.take_range, Nat.min_eq_left h]

theorem orL_take1 {l : List Int} {k : Nat} (h : k ≤ l.length) : (orL l.length l).take k = orB k := by
  unfold orL
  rw [List.take_append_of_le_length (by rw [orB_len]; exact h), orB_take h]

theorem orL_take2 {l : List Int} (j : Nat) : (orL l.length l).take (l.length + j) = orB l.length ++ orD (l.take j) := by
  unfold orL
  have h : (orB l.length).length = l.length := orB_len _
  rw [List.take_append, List.take_of_length_le (by rw [h]; omega), h, Nat.add_sub_cancel_left]
  unfold orD
  rw [List.map_take]

theorem or_St1 {l : List Int} {k : Nat} (h : k ≤ l.length) : St (orL l.length l) k = (⟨0, (k : Int), plF (fun _ => 1) 0 k, []⟩, []) := by
  unfold St; rw [orL_take1 h, or_begin l.length]
theorem or_St2 {l : List Int} (h : IsOrd l) {j : Nat} (hj : j ≤ l.length) : St (orL l.length l) (l.length + j) = (⟨(uO l j : Nat), (l.length : Nat), plF (fO l j) (uO l j) (l.length - uO l j), []⟩, []) := by
  unfold St; rw [orL_take2, or_done h j hj]

theorem or_get1 {l : List Int} {k : Nat} (h : k < l.length) : (orL l.length l).getD k default = ⟨0, (k : Int) + 1, []⟩ := by
  simp [orL, orB, List.getD, List.getElem?_append, h]
theorem or_get2 {l : List Int} {j : Nat} (h : j < l.length) : (orL l.length l).getD (l.length + j) default = ⟨2, l.getD j 0, []⟩ := by
  simp [orL, orB, orD, List.getD, h]

theorem ord_at {l : List Int} (h : IsOrd l) {j : Nat} (hj : j < l.length) : ∃ x : Nat, l.getD j 0 = x ∧ uO l j < x ∧ x ≤ l.length ∧ ¬ (x : Int) ∈ l.take j := by
  have ht := take_getD l 0 (k := j) (by omega)
  have hx : l.getD j 0 ∈ l := by rw [List.getD_eq_getElem?_getD, List.getElem?_eq_getElem (by omega)]; exact List.getElem_mem _
  obtain ⟨x, hxe⟩ : ∃ x : Nat, l.getD j 0 = x := ⟨(l.getD j 0).toNat, by have := (h.b _ hx).1; omega⟩
  rw [hxe] at ht hx
  have hnx : ¬ (x : Int) ∈ l.take j := by
    have hn : (l.take (j + 1)).Nodup := h.nd.sublist (List.take_sublist _ _)
    rw [ht, List.nodup_append] at hn
    intro hm
    exact hn.2.2 _ hm _ (List.mem_singleton.2 rfl) rfl
  have hb := h.b _ hx
  refine ⟨x, hxe, ?_, by omega, hnx⟩
  rcases Nat.lt_or_ge (uO l j) x with h1 | h1
  · exact h1
  · exact absurd ((uO_facts h j (by omega)).2.1 x (by omega) h1) hnx

theorem or_ok {l : List Int} (h : IsOrd l) (hl : l.length ≤ 1000) : okRun (orL l.length l) := by
  intro k hk
  rw [orL_len] at hk
  by_cases h1 : k < l.length
  · rw [or_get1 h1, or_St1 (by omega)]
    exact .inl ⟨rfl, by show (0 : Int) < (k : Int) + 1; omega, by show (k : Int) + 1 < MAX; unfold MAX; omega⟩
  · obtain ⟨j, rfl⟩ : ∃ j, k = l.length + j := ⟨k - l.length, by omega⟩
    have hj : j < l.length := by omega
    obtain ⟨x, hx, h2, h3, h4⟩ := ord_at h hj
    rw [or_get2 hj, or_St2 h (by omega), hx]
    have hu := (uO_facts h j (by omega)).1
    refine .inr (.inr (.inl ⟨rfl, fO l j x, plF_cnt _ _ _ x h2 (by omega), ?_⟩))
    unfold fO
    rw [if_neg h4]
    exact Int.le_refl _

theorem or_tells1 {l : List Int} {k : Nat} (h : k < l.length) : (tells (orL l.length l) k).til = 0 ∧ (tells (orL l.length l) k).last = (k : Int) + 1 := by
  unfold tells
  rw [or_St1 (by omega)]
  exact ⟨rfl, by show ((k + 1 : Nat) : Int) = _; omega⟩
theorem or_tells2 {l : List Int} (h : IsOrd l) {j : Nat} (hj : j < l.length) : (tells (orL l.length l) (l.length + j)).til = (uO l (j + 1) : Nat) ∧ (tells (orL l.length l) (l.length + j)).pend = ((l.length - uO l (j + 1) : Nat) : Int) := by
  unfold tells
  have e := or_St2 h (j := j + 1) (by omega)
  rw [← Nat.add_assoc] at e
  rw [e]
  exact ⟨rfl, by show ((plF _ _ _).length : Int) = _; rw [plF_len]⟩

/-- What has been seen behind j of them. -/
def bO (l : List Int) (j m : Nat) : List Value := (List.range m).map (fun i : Nat => Value.bool (decide ((i : Int) ∈ l.take j)))

theorem bO_len (l : List Int) (j m : Nat) : (bO l j m).length = m := by simp [bO]
theorem bO_zero (l : List Int) (m : Nat) : List.replicate m (Value.bool false) = bO l 0 m := by
  unfold bO
  symm
  rw [List.eq_replicate_iff]
  refine ⟨by simp, fun b hb => ?_⟩
  obtain ⟨i, -, rfl⟩ := List.mem_map.1 hb
  simp

theorem bO_at {l : List Int} {j m i : Nat} (h : i < m) : (bO l j m)[i]? = some (.bool (decide ((i : Int) ∈ l.take j))) := by
  simp [bO, h]

theorem bO_set {l : List Int} {j m x : Nat} (hj : j < l.length) (hx : l.getD j 0 = x) : (bO l j m).set x (.bool true) = bO l (j + 1) m := by
  apply List.ext_getElem?
  intro i
  by_cases hi : i < m
  · rw [List.getElem?_set, bO_at hi, bO_at hi, take_getD l 0 hj, hx]
    by_cases e : x = i
    · subst e; simp [bO_len, hi]
    · rw [if_neg e]
      have : ¬ (i : Int) = x := by omega
      simp [this]
  · have h1 : (bO l (j + 1) m)[i]? = none := List.getElem?_eq_none (by rw [bO_len]; omega)
    rw [h1]
    exact List.getElem?_eq_none (by rw [List.length_set, bO_len]; omega)

/-- From one mark on to the next one. -/
theorem uO_go {l : List Int} (h : IsOrd l) {j : Nat} (hj : j < l.length) {v : Nat} (h2 : v ≤ uO l (j + 1)) : decide (((v + 1 : Nat) : Int) ∈ l.take (j + 1)) = decide (v < uO l (j + 1)) := by
  obtain ⟨a, b, c⟩ := uO_facts h (j + 1) (by omega)
  rw [Bool.eq_iff_iff]
  simp only [decide_eq_true_eq]
  constructor
  · intro hm
    rcases Nat.lt_or_ge v (uO l (j + 1)) with h3 | h3
    · exact h3
    · exfalso
      obtain rfl : v = uO l (j + 1) := by omega
      rcases c with c | c
      · have := (h.b _ (List.mem_of_mem_take hm)).2
        omega
      · exact c hm
  · intro h3
    exact b (v + 1) (by omega) (by omega)

theorem IsOrd.of {l : List Int} (h1 : (l.take l.length).Nodup) (h2 : ∀ x ∈ l.take l.length, 1 ≤ x ∧ x ≤ l.length) : IsOrd l := by
  rw [List.take_length] at h1 h2
  exact ⟨h1, h2⟩

section
variable {P : Program} {w : World} {ops : Array Oper} {rest : List Oper} {o : Oper} {a : Act} {Q : Exit → Act → World → Prop}
theorem wpList_make_run (hg : o.guard = none) (n c : Operand) (t : TypeId) (hop : o.op = Op.makeSlice t n c) (vn vc : Value) (hn : a.eval n = vn) (hc : a.eval c = vc) (R : Value → World → Prop)
    (hrun : ∃ v w', (Instr.makeSlice t vn vc).run P w = .ok v w' ∧ R v w') (hK : ∀ v w', R v w' → wpList P ops Q rest (a.put o.dst v) w') : wpList P ops Q (o :: rest) a w := by
  obtain ⟨v, w', hr, hR⟩ := hrun
  refine wpList_plain hg fun K' hK' => ?_
  unfold Oper.wp
  simp [execOp, hop, hn, hc, hr, Result.andThen]
  exact hK' _ _ (hK v w' hR)
end

/-- A list of none seen is made. -/
theorem seen_make (l : List Int) (w : World) (n : Nat) (hn : n ≤ 5000) :
    ∃ v w', (Instr.makeSlice 33 (.int .u64 (n : Int)) (.int .u64 (n : Int))).run Try.prog w = .ok v w' ∧ v = .slice (some ⟨w.heap.size, 0, none⟩) n n ∧ w'.ownsRow 0 4 1 (.slice (some ⟨w.heap.size, 0, none⟩) n n) n (bO l 0 n) ∧ Tch [] w w' := by
  obtain ⟨i0, hi, hz0, hz1, hz2⟩ := info_parts Try.info4
  obtain ⟨w', hr, ho, hg⟩ := run_make_full (P := Try.prog) w 0 33 4 i0 (.bool false) 1 Try.underlying33 hi hz0 hz1 .u64 .u64 n (by rw [hz2]; omega) (by unfold maxLen; omega) (Nat.zero_le _)
  refine ⟨_, w', hr, rfl, ?_, (Tch.refl _ _).grown hg (by simp)⟩
  have e : (madeCells (Value.bool false).cells (n * 1)).toList = bO l 0 n := by
    rw [Nat.mul_one]
    show (madeCells #[Value.bool false] n).toList = _
    rw [toList_madeCells_one, bO_zero l]
  rw [e] at ho
  exact ho

/-- One more has been seen. -/
theorem seen_set {l : List Int} {w : World} {g c m j x : Nat} (h : w.ownsRow 0 4 1 (.slice (some ⟨g, 0, none⟩) m c) m (bO l j m)) (hj : j < l.length) (hx : l.getD j 0 = x) : (w.setCell ⟨g, x, none⟩ (.bool true)).ownsRow 0 4 1 (.slice (some ⟨g, 0, none⟩) m c) m (bO l (j + 1) m) := by
  have := (h.stored x (.bool true)).1
  rw [bO_set hj hx] at this
  exact this

theorem seen_at {l : List Int} {w : World} {g c m j i : Nat} (h : w.ownsRow 0 4 1 (.slice (some ⟨g, 0, none⟩) m c) m (bO l j m)) (hi : i < m) : w.cell? ⟨g, i, none⟩ = some (.bool (decide ((i : Int) ∈ l.take j))) ∧ w.frozen? ⟨g, i, none⟩ = false :=
  ⟨by rw [h.cellAt i (by omega)]; exact bO_at hi, h.frozenAt i⟩

end Go.Proofs.Ytaheafmdkbobcaa
