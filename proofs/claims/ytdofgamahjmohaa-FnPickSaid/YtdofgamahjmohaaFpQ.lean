/- What levels want a compaction; plain. -/
import Derived.Test.YtdofgamahjmohaaFpP
namespace Go.Proofs.Ytdofgamahjmohaa
set_option maxRecDepth 100000

abbrev quoW (x y : Nat) : Nat := (floatBits .quo .f64 x y).getD 0
abbrev fI (a : Int) : Nat := floatOfInt .f64 a
abbrev oneW : Nat := 4607182418800017408
abbrev centW : Nat := 4576918229304087675
def geW (x y : Nat) : Bool := Ieee.double.order x y == some .gt || Ieee.double.order x y == some .eq
theorem one_read : Ieee.double.read oneW = .number false 4503599627370496 (-52) := by decide
theorem num_one : Num oneW := ⟨_, _, _, one_read, by omega, by omega, by omega⟩
theorem geW_V {x y : Nat} (hx : Val x) (hy : Val y) : geW x y = decide (V y ≤ V x) := by
  unfold geW
  rw [order_V hx hy]
  rcases Int.lt_trichotomy (V x) (V y) with h | h | h
  · rw [cmp_lt h, decide_eq_false (by omega)]; rfl
  · rw [h, decide_eq_true (Int.le_refl _)]
    show (some (compareOfLessAndEq _ _) == _ || some (compareOfLessAndEq _ _) == _) = true
    simp [compareOfLessAndEq]
  · rw [cmp_gt h, decide_eq_true (by omega)]; rfl
theorem ltW_V {x y : Nat} (hx : Val x) (hy : Val y) : (Ieee.double.order x y == some .lt) = !geW x y := by
  rw [geW_V hx hy, order_V hx hy]
  rcases Int.lt_trichotomy (V x) (V y) with h | h | h
  · rw [cmp_lt h, decide_eq_false (by omega)]; rfl
  · rw [h, decide_eq_true (Int.le_refl _)]
    show (some (compareOfLessAndEq _ _) == _) = _
    simp [compareOfLessAndEq]
  · rw [cmp_gt h, decide_eq_true (by omega)]; rfl
theorem eqW_V {x y : Nat} (hx : Val x) (hy : Val y) : (Ieee.double.order x y == some .eq) = decide (V x = V y) := by
  rw [order_V hx hy]
  rcases Int.lt_trichotomy (V x) (V y) with h | h | h
  · rw [cmp_lt h, decide_eq_false (by omega)]; rfl
  · rw [h, decide_eq_true rfl]
    show (some (compareOfLessAndEq _ _) == _) = _
    simp [compareOfLessAndEq]
  · rw [cmp_gt h, decide_eq_false (by omega)]; rfl
theorem gtW_V {x y : Nat} (hx : Val x) (hy : Val y) : (Ieee.double.order x y == some .gt) = decide (V y < V x) := by
  rw [order_V hx hy]
  rcases Int.lt_trichotomy (V x) (V y) with h | h | h
  · rw [cmp_lt h, decide_eq_false (by omega)]; rfl
  · rw [h, decide_eq_false (by omega)]
    show (some (compareOfLessAndEq _ _) == _) = _
    simp [compareOfLessAndEq]
  · rw [cmp_gt h, decide_eq_true (by omega)]; rfl

/-- A level that wants a compaction. -/
structure PrD where
  lvl : Nat
  sc : Nat
  adj : Nat
  deriving Inhabited

/-- A score beside that of the next level. -/
def adjOne (sc : Nat → Nat) (j i : Nat) : Nat := if geW (sc j) oneW then quoW (sc j) (if geW (sc i) centW then sc i else centW) else sc j
/-- The scores when the levels ahead of i have been looked at. -/
def adjAt (sc : Nat → Nat) (b i j : Nat) : Nat := if j = 0 then (if b < i then adjOne sc 0 b else sc 0) else if b ≤ j ∧ j + 1 < i then adjOne sc j (j + 1) else sc j
def befo (b i : Nat) : Nat := if i = b then 0 else i - 1
theorem adjAt_start (sc : Nat → Nat) (b j : Nat) : adjAt sc b b j = sc j := by
  unfold adjAt
  by_cases h : j = 0
  · subst h; rw [if_pos rfl, if_neg (by omega)]
  · rw [if_neg h, if_neg (by omega)]
theorem adjAt_before (sc : Nat → Nat) {b i : Nat} (hb : 1 ≤ b) (hi : b ≤ i) : adjAt sc b i (befo b i) = sc (befo b i) := by
  unfold befo
  split
  · rename_i h; subst h; exact adjAt_start sc i 0
  · unfold adjAt
    rw [if_neg (by omega), if_neg (by omega)]
theorem adjAt_here (sc : Nat → Nat) {b i : Nat} (hb : 1 ≤ b) (hi : b ≤ i) : adjAt sc b i i = sc i := by
  unfold adjAt
  rw [if_neg (by omega), if_neg (by omega)]
theorem adjAt_step (sc : Nat → Nat) {b i : Nat} (hb : 1 ≤ b) (hi : b ≤ i) (j : Nat) : adjAt sc b (i + 1) j = if j = befo b i then adjOne sc (befo b i) i else adjAt sc b i j := by
  unfold befo
  by_cases hib : i = b
  · subst hib
    rw [if_pos rfl]
    by_cases h : j = 0
    · subst h; unfold adjAt; rw [if_pos rfl, if_pos rfl, if_pos (by omega)]
    · unfold adjAt; rw [if_neg h, if_neg h, if_neg h, if_neg (by omega), if_neg (by omega)]
  · rw [if_neg hib]
    by_cases h : j = i - 1
    · subst h
      rw [if_pos rfl]
      unfold adjAt
      rw [if_neg (by omega), if_pos ⟨by omega, by omega⟩]
      congr 1
      omega
    · rw [if_neg h]
      unfold adjAt
      by_cases h0 : j = 0
      · rw [if_pos h0, if_pos h0, if_pos (by omega), if_pos (by omega)]
      · rw [if_neg h0, if_neg h0]
        by_cases h1 : b ≤ j ∧ j + 1 < i
        · rw [if_pos h1, if_pos ⟨h1.1, by omega⟩]
        · rw [if_neg h1, if_neg (by omega)]
theorem befo_step {b i : Nat} (hi : b ≤ i) : befo b (i + 1) = i := by
  unfold befo
  rw [if_neg (by omega)]; omega
/-- Each score that is adjusted is no NaN. -/
theorem adjOne_val {sc : Nat → Nat} {j i : Nat} (hj : Num (sc j)) (hi : Num (sc i)) : ∃ r, (geW (sc j) oneW = true → floatBits .quo .f64 (sc j) (if geW (sc i) centW then sc i else centW) = some r) ∧ (geW (sc j) oneW = false → r = sc j) ∧ adjOne sc j i = r ∧ Val r := by
  unfold adjOne
  cases h : geW (sc j) oneW with
  | false => exact ⟨sc j, fun h => by simp at h, fun _ => rfl, by simp, .inl hj⟩
  | true =>
    have hd : ∃ s m e, Ieee.double.read (if geW (sc i) centW = true then sc i else centW) = .number s m e ∧ m ≠ 0 := by
      cases h2 : geW (sc i) centW with
      | false => exact ⟨_, _, _, by rw [if_neg (by simp)]; exact cent_read, by omega⟩
      | true =>
        rw [if_pos rfl]
        refine ge_cent hi ?_
        unfold geW at h2
        rw [Bool.or_eq_true, beq_iff_eq, beq_iff_eq] at h2
        exact h2
    obtain ⟨r, h3, h4⟩ := quo_val hj hd
    refine ⟨r, fun _ => h3, fun h => by simp at h, ?_, h4⟩
    rw [if_pos rfl]
    show (floatBits _ _ _ _).getD 0 = r
    rw [h3]; rfl
theorem adjAt_val {sc : Nat → Nat} {b i j n : Nat} (h : ∀ j, j < n → Num (sc j)) (hb : b < n) (hi : i ≤ n) (hj : j < n) : Val (adjAt sc b i j) := by
  unfold adjAt
  split
  · rename_i h0; subst h0
    split
    · obtain ⟨r, -, -, e, hv⟩ := adjOne_val (h 0 hj) (h b hb)
      rw [e]; exact hv
    · exact .inl (h 0 hj)
  · split
    · rename_i h1
      obtain ⟨r, -, -, e, hv⟩ := adjOne_val (h j hj) (h (j + 1) (by omega))
      rw [e]; exact hv
    · exact .inl (h j hj)

def prL (sc : Nat → Nat) (b i n : Nat) : List PrD := (List.range n).map (fun j => ⟨j, sc j, adjAt sc b i j⟩)
def wants (x : PrD) : Bool := geW x.sc oneW
def pickL (sc : Nat → Nat) (b n : Nat) : List PrD := ((prL sc b n n).take (n - 1)).filter wants
theorem pickL_val {sc : Nat → Nat} {b n : Nat} (h : ∀ j, j < n → Num (sc j)) (hb : b < n) : ∀ x ∈ pickL sc b n, Val x.adj := by
  intro x hx
  have h1 := List.mem_of_mem_take (List.mem_filter.1 hx).1
  obtain ⟨j, hj, rfl⟩ := List.mem_map.1 h1
  exact adjAt_val h hb (Nat.le_refl _) (List.mem_range.1 hj)

/-- One put in, where it belongs; nothing is said of two alike. -/
def insP (out : List PrD) (x : PrD) : List PrD := out.takeWhile (fun y => geW y.adj x.adj) ++ x :: out.dropWhile (fun y => geW y.adj x.adj)
def insC (out : List PrD) (x : PrD) : Bool := (out.takeWhile (fun y => geW y.adj x.adj)).all (fun y => !(Ieee.double.order y.adj x.adj == some .eq))
def insAll : List PrD → List PrD → List PrD × Bool
  | [], out => (out, true)
  | x :: xs, out => ((insAll xs (insP out x)).1, insC out x && (insAll xs (insP out x)).2)
theorem insP_perm (out : List PrD) (x : PrD) : (insP out x).Perm (x :: out) := by
  unfold insP
  refine List.perm_middle.trans ?_
  rw [List.takeWhile_append_dropWhile]
theorem insAll_perm : ∀ (xs out : List PrD), (insAll xs out).1.Perm (xs ++ out)
  | [], out => List.Perm.refl _
  | x :: xs, out => by
    refine (insAll_perm xs (insP out x)).trans ?_
    refine ((List.Perm.append_left xs (insP_perm out x))).trans ?_
    exact List.perm_middle
theorem insAll_snoc : ∀ (xs out : List PrD) (x : PrD), insAll (xs ++ [x]) out = (insP (insAll xs out).1 x, (insAll xs out).2 && insC (insAll xs out).1 x)
  | [], out, x => by simp [insAll]
  | y :: xs, out, x => by
    have ih := insAll_snoc xs (insP out y) x
    rw [List.cons_append]
    unfold insAll
    rw [ih]
    simp [Bool.and_assoc]
theorem insAll_len (xs out : List PrD) : (insAll xs out).1.length = xs.length + out.length := by
  rw [(insAll_perm xs out).length_eq, List.length_append]
def desc (l : List PrD) : Prop := l.Pairwise (fun x y => V y.adj < V x.adj)
theorem insP_desc {out : List PrD} {x : PrD} (h : desc out) (hv : ∀ y ∈ out, Val y.adj) (hx : Val x.adj) (hc : insC out x = true) : desc (insP out x) := by
  induction out with
  | nil => exact List.pairwise_singleton _ _
  | cons y l ih =>
    obtain ⟨h1, h2⟩ := List.pairwise_cons.1 h
    have hy := hv y (by simp)
    unfold insP
    unfold insC at hc
    cases hg : geW y.adj x.adj with
    | true =>
      have e1 : (y :: l).takeWhile (fun y => geW y.adj x.adj) = y :: l.takeWhile (fun y => geW y.adj x.adj) := by simp [hg]
      have e2 : (y :: l).dropWhile (fun y => geW y.adj x.adj) = l.dropWhile (fun y => geW y.adj x.adj) := by simp [hg]
      rw [e1] at hc
      rw [e1, e2]
      rw [List.all_cons, Bool.and_eq_true] at hc
      have h3 := ih h2 (fun z hz => hv z (by simp [hz])) (by unfold insC; exact hc.2)
      refine List.pairwise_cons.2 ⟨fun z hz => ?_, h3⟩
      rcases List.mem_cons.1 ((insP_perm l x).mem_iff.1 hz) with rfl | hz
      · have e := hc.1
        rw [eqW_V hy hx] at e
        rw [geW_V hy hx, decide_eq_true_eq] at hg
        simp only [Bool.not_eq_true', decide_eq_false_iff_not] at e
        omega
      · exact h1 z hz
    | false =>
      have e1 : (y :: l).takeWhile (fun y => geW y.adj x.adj) = [] := by simp [hg]
      have e2 : (y :: l).dropWhile (fun y => geW y.adj x.adj) = y :: l := by simp [hg]
      rw [e1, e2]
      rw [geW_V hy hx, decide_eq_false_iff_not] at hg
      refine List.pairwise_cons.2 ⟨fun z hz => ?_, h⟩
      rcases List.mem_cons.1 hz with rfl | hz
      · omega
      · have := h1 z hz; omega
theorem insAll_desc : ∀ (xs out : List PrD), desc out → (∀ y ∈ out, Val y.adj) → (∀ x ∈ xs, Val x.adj) → (insAll xs out).2 = true → desc (insAll xs out).1
  | [], out, h, _, _, _ => h
  | x :: xs, out, h, hv, hx, hc => by
    unfold insAll at hc ⊢
    rw [Bool.and_eq_true] at hc
    refine insAll_desc xs (insP out x) (insP_desc h hv (hx x (by simp)) hc.1) (fun y hy => ?_) (fun y hy => hx y (by simp [hy])) hc.2
    rcases List.mem_cons.1 ((insP_perm out x).mem_iff.1 hy) with rfl | hy
    · exact hx y (by simp)
    · exact hv y hy
/-- What is sorted by falling scores is what was put in one by one, if all differ. -/
theorem sorted_ins {xs r : List PrD} (hx : ∀ x ∈ xs, Val x.adj) (hc : (insAll xs []).2 = true) (hp : r.Perm xs) (hs : r.Pairwise (fun x y => ¬ V x.adj < V y.adj)) : r = (insAll xs []).1 := by
  have hd := insAll_desc xs [] List.Pairwise.nil (by simp) hx hc
  have hp2 : r.Perm (insAll xs []).1 := hp.trans ((insAll_perm xs []).trans (by rw [List.append_nil])).symm
  have hne : ∀ (l : List PrD), desc l → ∀ a b, a ∈ l → b ∈ l → V a.adj = V b.adj → a = b := by
    intro l
    induction l with
    | nil => intro _ a b ha; simp at ha
    | cons y l ih =>
      intro hl a b ha hb e
      obtain ⟨h1, h2⟩ := List.pairwise_cons.1 hl
      rcases List.mem_cons.1 ha with e1 | ha2 <;> rcases List.mem_cons.1 hb with e2 | hb2
      · rw [e1, e2]
      · have := h1 b hb2; rw [e1] at e; omega
      · have := h1 a ha2; rw [e2] at e; omega
      · exact ih h2 a b ha2 hb2 e
  refine List.Perm.eq_of_pairwise (le := fun x y => V y.adj ≤ V x.adj) (fun a b ha hb h1 h2 => hne _ hd a b (hp2.mem_iff.1 ha) hb (by omega)) (hs.imp (fun h => by omega)) (hd.imp (fun h => by omega)) hp2

end Go.Proofs.Ytdofgamahjmohaa
