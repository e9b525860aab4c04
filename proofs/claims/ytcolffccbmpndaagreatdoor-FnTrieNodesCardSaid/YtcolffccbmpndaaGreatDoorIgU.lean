/- Items by commas: plain. -/
import Derived.Test.YtcolffccbmpndaaGreatDoorIgI
namespace Go.Proofs.YtcolffccbmpndaaGreatDoor

theorem text_no44 {i : It} (h : i.ok) : ∀ x ∈ i.text, x ≠ 44 := by
  have hs : ∀ n, ∀ x ∈ sp n, x ≠ 44 := fun n x hx => by rw [sp_mem hx]; decide
  have hd : ∀ ds, Ds ds → ∀ x ∈ ds, x ≠ 44 := fun ds hds x hx => isD_ne (hds.all x hx) (by decide)
  intro x hx
  unfold It.text at hx
  rcases List.mem_append.1 hx with hx | hx
  · rcases List.mem_append.1 hx with hx | hx
    · exact hs _ x hx
    · unfold It.core at hx
      split at hx
      · exact hd _ h.d x hx
      · rename_i c es d he
        rcases List.mem_append.1 hx with hx | hx
        · rcases List.mem_append.1 hx with hx | hx
          · exact hd _ h.d x hx
          · exact hs _ x hx
        · rcases List.mem_cons.1 hx with rfl | hx
          · decide
          · rcases List.mem_append.1 hx with hx | hx
            · exact hs _ x hx
            · exact hd _ (h.e _ _ _ he) x hx
  · exact hs _ x hx

/-- Up to which place an item goes. -/
def It.to (i : It) : Nat := i.e?.getD i.s
def stepI (x : Nat × (Nat → Bool)) (i : It) : Nat × (Nat → Bool) := (max x.1 (i.to + 1), fun j => x.2 j || (decide (i.s ≤ j) && decide (j ≤ i.to)))
structure It.good (i : It) : Prop where
  ok : i.ok
  le : i.s ≤ i.to

theorem s_le {i : It} (h : i.ok) : i.s ≤ 9999 := val_lt h.d
theorem e_le {i : It} (h : i.ok) : ∀ e, i.e? = some e → e ≤ 9999 := by
  intro e he
  unfold It.e? at he
  cases ht : i.two with
  | none => rw [ht] at he; simp at he
  | some x =>
    rw [ht] at he
    obtain ⟨c, es, d⟩ := x
    simp only [Option.map_some, Option.some.injEq] at he
    rw [← he]
    exact val_lt (h.e _ _ _ ht)
theorem small_text {i : It} (h : i.ok) : smallI i.text := by
  intro s e hse
  rw [itemP_text h, Option.some.injEq, Prod.mk.injEq] at hse
  obtain ⟨rfl, rfl⟩ := hse
  have h1 := s_le h
  refine ⟨by omega, by omega, fun t ht => ?_⟩
  rw [Option.map_eq_some_iff] at ht
  obtain ⟨u, hu, rfl⟩ := ht
  have := e_le h u hu
  simp only [Int.ofNat_eq_natCast]
  omega

theorem runP_texts : ∀ (L : List It) (x : Nat × (Nat → Bool)), (∀ i ∈ L, i.good) → runP x (L.map It.text) = some (L.foldl stepI x) := by
  intro L
  induction L with
  | nil => intro x _; rfl
  | cons i t ih =>
    intro x h
    have hi := h i (by simp)
    rw [List.map_cons, runP_some (itemP_text hi.ok), List.foldl_cons, ← ih _ (fun y hy => h y (by simp [hy]))]
    congr 1
    have hle := hi.le
    unfold stepI It.to at *
    cases he : i.e? with
    | none =>
      rw [he] at hle
      simp only [Option.map_none, Int.toNat_natCast, Option.getD_none]
      unfold upTo setF
      simp only [Option.getD_none]
      congr 1
      try omega
    | some e =>
      rw [he] at hle
      simp only [Option.getD_some] at hle
      simp only [Option.map_some, Int.toNat_natCast, Option.getD_some, Int.ofNat_eq_natCast]
      unfold upTo setF
      simp only [Option.getD_some]
      congr 1
      try omega

/-- Items, each with a comma behind it. -/
def pre (L : List It) : List UInt8 := L.flatMap (fun i => i.text ++ [44])
theorem pre_cons (i : It) (L : List It) : pre (i :: L) = i.text ++ 44 :: pre L := by unfold pre; simp
theorem pre_snoc (L : List It) (i : It) : pre (L ++ [i]) = pre L ++ (i.text ++ [44]) := by unfold pre; simp
theorem split_pre : ∀ (L : List It) (i : It), (∀ j ∈ L, j.ok) → i.ok → splitB 44 (pre L ++ i.text) = (L ++ [i]).map It.text := by
  intro L
  induction L with
  | nil => intro i _ hi; simp [pre, splitB_none (text_no44 hi)]
  | cons j t ih =>
    intro i h hi
    rw [pre_cons, List.append_assoc, List.cons_append, splitB_at _ (text_no44 (h j (by simp))), ih i (fun y hy => h y (by simp [hy])) hi]
    rfl

def It.strikeA (i : It) : It := { i with a := 0 }
def It.strikeT (i : It) : It := match i.two with
  | none => { i with b := 0 }
  | some (c, es, _) => { i with two := some (c, es, 0) }
theorem strikeA_ok {i : It} (h : i.good) : i.strikeA.good := ⟨⟨h.ok.d, h.ok.e⟩, h.le⟩
theorem strikeA_text (i : It) : i.text = sp i.a ++ i.strikeA.text := by
  unfold It.text It.strikeA It.core It.tail
  simp [sp]
theorem strikeT_ok {i : It} (h : i.good) : i.strikeT.good := by
  have hle := h.le
  unfold It.to It.e? It.s at hle
  unfold It.strikeT
  cases ht : i.two with
  | none =>
    rw [ht] at hle
    exact ⟨⟨h.ok.d, fun c es d e => by simp at e⟩, by unfold It.to It.e? It.s; simp only; exact hle⟩
  | some x =>
    obtain ⟨c, es, d⟩ := x
    rw [ht] at hle
    exact ⟨⟨h.ok.d, fun c2 es2 d2 e => by simp only [Option.some.injEq, Prod.mk.injEq] at e; obtain ⟨-, rfl, -⟩ := e; exact h.ok.e _ _ _ ht⟩, by unfold It.to It.e? It.s; exact hle⟩
theorem strikeT_core (i : It) : i.strikeT.core ++ sp i.strikeT.tail = i.core ∧ i.strikeT.a = i.a ∧ i.strikeT.tail = 0 ∧ ∀ x, stepI x i.strikeT = stepI x i := by
  unfold It.strikeT
  cases ht : i.two with
  | none =>
    refine ⟨by simp [It.core, It.tail, ht, sp], rfl, by simp [It.tail], fun x => ?_⟩
    unfold stepI It.to It.e? It.s
    simp only [ht]
  | some x =>
    obtain ⟨c, es, d⟩ := x
    refine ⟨by simp [It.core, It.tail, ht, sp], rfl, rfl, fun x => ?_⟩
    unfold stepI It.to It.e? It.s
    simp only [ht]
    rfl
theorem strikeT_text (i : It) : i.text = i.strikeT.text ++ sp i.tail := by
  obtain ⟨h1, h2, h3, -⟩ := strikeT_core i
  unfold It.text
  rw [h2, List.append_assoc (sp i.a) i.strikeT.core, h1]

theorem text_cons {i : It} (h : i.ok) (ha : i.a = 0) : ∃ x t, i.text = x :: t ∧ isD x := by
  obtain ⟨x, t, hx, hd⟩ := core_cons h
  exact ⟨x, t ++ sp i.tail, by unfold It.text; rw [ha, hx]; simp [sp], hd⟩
theorem text_last {i : It} (h : i.ok) (ha : i.tail = 0) : ∃ t y, i.text = t ++ [y] ∧ isD y := by
  obtain ⟨t, y, hy, hd⟩ := core_last h
  exact ⟨sp i.a ++ t, y, by unfold It.text; rw [ha, hy]; simp [sp], hd⟩

/-- Blanks ahead of all items and behind them don't matter. -/
theorem trim_pre (L : List It) (i : It) (h : ∀ j ∈ L, j.good) (hi : i.good) : ∃ L' i', (∀ j ∈ L', j.good) ∧ i'.good ∧ trimS (pre L ++ i.text) = pre L' ++ i'.text ∧ ∀ x, (L' ++ [i']).foldl stepI x = (L ++ [i]).foldl stepI x := by
  cases L with
  | nil =>
    have g1 := strikeA_ok (strikeT_ok hi)
    refine ⟨[], i.strikeT.strikeA, by simp, g1, ?_, fun x => ?_⟩
    · obtain ⟨x, t, hx, vx⟩ := text_cons g1.ok rfl
      obtain ⟨u, y, hy, vy⟩ := text_last g1.ok (by have := (strikeT_core i).2.2.1; exact this)
      have := trim_mid i.a i.tail i.strikeT.strikeA.text x y t u hx hy (isD_vis vx) (isD_vis vy)
      rw [strikeT_text, strikeA_text i.strikeT, (strikeT_core i).2.1]
      simpa [pre] using this
    · exact (strikeT_core i).2.2.2 x
  | cons j L =>
    have g1 := strikeT_ok hi
    have g2 := strikeA_ok (h j (by simp))
    refine ⟨j.strikeA :: L, i.strikeT, fun z hz => ?_, g1, ?_, fun x => ?_⟩
    · rcases List.mem_cons.1 hz with rfl | hz
      · exact g2
      · exact h z (by simp [hz])
    · obtain ⟨x, t, hx, vx⟩ := text_cons g2.ok rfl
      obtain ⟨u, y, hy, vy⟩ := text_last g1.ok (strikeT_core i).2.2.1
      have := trim_mid j.a i.tail (pre (j.strikeA :: L) ++ i.strikeT.text) x y (t ++ 44 :: pre L ++ i.strikeT.text) (pre (j.strikeA :: L) ++ u) (by rw [pre_cons, hx]; simp) (by rw [hy]; simp) (isD_vis vx) (isD_vis vy)
      rw [← this, strikeT_text i, pre_cons, pre_cons, strikeA_text j]
      simp
    · rw [List.foldl_append, List.foldl_append]
      show stepI (List.foldl stepI (stepI x j.strikeA) L) i.strikeT = stepI (List.foldl stepI (stepI x j) L) i
      rw [(strikeT_core i).2.2.2]
      rfl

/-- What the package reads of items by commas. -/
theorem parse_pre (L : List It) (i : It) (h : ∀ j ∈ L, j.good) (hi : i.good) : parseP (pre L ++ i.text) = some ((L ++ [i]).foldl stepI (0, fun _ => false)) ∧ ∀ p ∈ splitB 44 (trimS (pre L ++ i.text)), smallI p := by
  obtain ⟨L', i', h1, h2, h3, h4⟩ := trim_pre L i h hi
  have hs : splitB 44 (trimS (pre L ++ i.text)) = (L' ++ [i']).map It.text := by rw [h3, split_pre L' i' (fun j hj => (h1 j hj).ok) h2.ok]
  have hne : pre L ++ i.text ≠ [] := by
    obtain ⟨x, t, hx, -⟩ := core_cons hi.ok
    unfold It.text
    rw [hx]
    simp
  have hall : ∀ j ∈ L' ++ [i'], j.good := fun j hj => by
    rcases List.mem_append.1 hj with hj | hj
    · exact h1 j hj
    · rw [List.mem_singleton.1 hj]; exact h2
  refine ⟨?_, fun p hp => ?_⟩
  · unfold parseP
    rw [if_neg hne, hs, runP_texts _ _ hall, h4]
  · rw [hs] at hp
    obtain ⟨j, hj, rfl⟩ := List.mem_map.1 hp
    exact small_text (hall j hj).ok

end Go.Proofs.YtcolffccbmpndaaGreatDoor
