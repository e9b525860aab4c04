/- spec.HolesText. -/
import Derived.Test.YtcolffccbmpndaaDoorIgO
namespace Go.Proofs.YtcolffccbmpndaaDoor
open Go.RowKit Go.Deep
set_option maxRecDepth 100000

/-- Blanks behind an item. -/
def It.more (k : Nat) (i : It) : It := match i.two with
  | none => { i with b := i.b + k }
  | some (c, es, d) => { i with two := some (c, es, d + k) }
theorem sp_add (a b : Nat) : sp (a + b) = sp a ++ sp b := by unfold sp; rw [List.replicate_append_replicate]
theorem more_text (k : Nat) (i : It) : (i.more k).text = i.text ++ sp k := by
  unfold It.more
  cases ht : i.two with
  | none => simp [It.text, It.core, It.tail, ht, sp_add]
  | some x =>
    obtain ⟨c, es, d⟩ := x
    simp [It.text, It.core, It.tail, ht, sp_add]
theorem more_good {k : Nat} {i : It} (h : i.good) : (i.more k).good ∧ ∀ x, stepI x (i.more k) = stepI x i := by
  have hle := h.le
  unfold It.to It.e? It.s at hle
  unfold It.more
  cases ht : i.two with
  | none =>
    rw [ht] at hle
    refine ⟨⟨⟨h.ok.d, fun c es d e => by simp [ht] at e⟩, by unfold It.to It.e? It.s; simp only [ht]; exact hle⟩, fun x => ?_⟩
    unfold stepI It.to It.e? It.s
    simp only [ht]
  | some x =>
    obtain ⟨c, es, d⟩ := x
    rw [ht] at hle
    refine ⟨⟨⟨h.ok.d, fun c2 es2 d2 e => by simp only [Option.some.injEq, Prod.mk.injEq] at e; obtain ⟨-, rfl, -⟩ := e; exact h.ok.e _ _ _ ht⟩, by unfold It.to It.e? It.s; exact hle⟩, fun x => ?_⟩
    unfold stepI It.to It.e? It.s
    simp only [ht]
    rfl

/-- A text that names the places ahead of i. -/
def Named (f : Nat → Bool) (i : Nat) (o : List UInt8) : Prop :=
  ∃ L it n g, (∀ j ∈ L, It.good j) ∧ It.good it ∧ o = pre L ++ it.text ∧ (L ++ [it]).foldl stepI (0, fun _ => false) = (n, g) ∧ (∀ j, g j = (decide (j < i) && f j)) ∧ n ≤ i
def TextOk (f : Nat → Bool) (i : Nat) (o : List UInt8) : Prop :=
  o.length ≤ i * 20 ∧ ((o = [] ∧ ∀ j, j < i → f j = false) ∨ (o ≠ [] ∧ Named f i o))

def comma (k : Nat) : List UInt8 := sp k ++ 44 :: sp k
def dash (k : Nat) : List UInt8 := sp k ++ 45 :: sp k

theorem text_skip {f : Nat → Bool} {i : Nat} {o : List UInt8} (h : TextOk f i o) (hf : f i = false) : TextOk f (i + 1) o := by
  obtain ⟨h1, h2⟩ := h
  refine ⟨by omega, ?_⟩
  rcases h2 with ⟨rfl, h3⟩ | ⟨hne, L, it, n, g, h3, h4, h5, h6, h7, h8⟩
  · refine .inl ⟨rfl, fun j hj => ?_⟩
    by_cases e : j = i
    · subst e; exact hf
    · exact h3 j (by omega)
  · refine .inr ⟨hne, L, it, n, g, h3, h4, h5, h6, fun j => ?_, by omega⟩
    rw [h7 j]
    by_cases e : j = i
    · subst e; simp [hf]
    · have : decide (j < i + 1) = decide (j < i) := by rw [decide_eq_decide]; omega
      rw [this]

/-- An item behind a text. -/
theorem text_item {f : Nat → Bool} {i last k : Nat} {o : List UInt8} (it : Nat → It) (hg : ∀ a, (it a).good) (hs : ∀ a x, stepI x (it a) = (max x.1 (last + 1), fun j => x.2 j || (decide (i ≤ j) && decide (j ≤ last)))) (hsp : (it k).text = sp k ++ (it 0).text) (hl : i ≤ last) (hlen : (it 0).text.length ≤ 14) (hne : (it 0).text ≠ []) (hk : k ≤ 1) (h : TextOk f i o) (hf : ∀ j, i ≤ j → j ≤ last → f j = true) :
    TextOk f (last + 1) ((if o = [] then o else o ++ comma k) ++ (it 0).text) := by
  obtain ⟨h1, h2⟩ := h
  have hsl : ∀ n, (sp n).length = n := fun n => by simp [sp]
  rcases h2 with ⟨rfl, h3⟩ | ⟨hno, L, jt, n, g, h3, h4, h5, h6, h7, h8⟩
  · refine ⟨by simp; omega, .inr ⟨by simpa using hne, [], it 0, max 0 (last + 1), _, by simp, hg 0, by simp [pre], hs 0 _, fun j => ?_, by omega⟩⟩
    simp only [Bool.false_or]
    by_cases e1 : j < i
    · have : ¬ i ≤ j := by omega
      simp [this, h3 j e1]
    · by_cases e2 : j ≤ last
      · have e3 : i ≤ j := by omega
        have e4 : j < last + 1 := by omega
        simp [e2, e3, e4, hf j e3 e2]
      · have e4 : ¬ j < last + 1 := by omega
        simp [e2, e4]
  · rw [if_neg hno]
    have hmt := more_text k jt
    obtain ⟨hm1, hm2⟩ := more_good (k := k) h4
    refine ⟨?_, .inr ⟨by simp [hno], L ++ [jt.more k], it k, max n (last + 1), (fun j => g j || (decide (i ≤ j) && decide (j ≤ last))), ?_, hg k, ?_, ?_, fun j => ?_, by omega⟩⟩
    · rw [List.length_append, List.length_append]
      unfold comma
      rw [List.length_append, List.length_cons, hsl]
      omega
    · intro x hx
      rcases List.mem_append.1 hx with hx | hx
      · exact h3 x hx
      · rw [List.mem_singleton.1 hx]; exact hm1
    · rw [pre_snoc, hmt, hsp, h5]
      unfold comma
      simp
    · rw [List.foldl_append, List.foldl_append] at *
      show stepI (stepI (List.foldl stepI (0, fun _ => false) L) (jt.more k)) (it k) = _
      rw [hm2]
      have : stepI (List.foldl stepI (0, fun _ => false) L) jt = (n, g) := h6
      rw [this, hs k]
    · simp only [h7 j]
      by_cases e1 : j < i
      · have : ¬ i ≤ j := by omega
        have e4 : j < last + 1 := by omega
        simp [e1, this, e4]
      · by_cases e2 : j ≤ last
        · have e3 : i ≤ j := by omega
          have e4 : j < last + 1 := by omega
          simp [e1, e2, e3, e4, hf j e3 e2]
        · have e4 : ¬ j < last + 1 := by omega
          simp [e1, e2, e4]

theorem text_num {f : Nat → Bool} {i k : Nat} {o ds : List UInt8} (hk : k ≤ 1) (h : TextOk f i o) (hd : Ds ds) (hv : val ds = i) (hf : f i = true) : TextOk f (i + 1) ((if o = [] then o else o ++ comma k) ++ ds) := by
  have hlen := hd.len
  have e : (oneI 0 ds 0).text = ds := by simp [oneI, It.text, It.core, It.tail, sp]
  have := text_item (f := f) (i := i) (last := i) (k := k) (o := o) (fun a => oneI a ds 0) (fun a => oneI_good hd) (fun a x => by rw [oneI_step, hv]) (by simp [oneI, It.text, It.core, It.tail, sp]) (Nat.le_refl _) (by rw [e]; omega) (by rw [e]; exact hd.ne) hk h (fun j h1 h2 => by rw [show j = i by omega]; exact hf)
  rw [e] at this
  exact this
theorem text_range {f : Nat → Bool} {i last k : Nat} {o ds es : List UInt8} (hk : k ≤ 1) (h : TextOk f i o) (hd : Ds ds) (hv : val ds = i) (he : Ds es) (hve : val es = last) (hl : i ≤ last) (hf : ∀ j, i ≤ j → j ≤ last → f j = true) : TextOk f (last + 1) ((if o = [] then o else o ++ comma k) ++ ds ++ (dash k ++ es)) := by
  have hlen := hd.len
  have hlen2 := he.len
  have hsl : ∀ n, (sp n).length = n := fun n => by simp [sp]
  have e : (twoI 0 ds k k es 0).text = ds ++ (dash k ++ es) := by simp [twoI, It.text, It.core, It.tail, dash, sp]
  have := text_item (f := f) (i := i) (last := last) (k := k) (o := o) (fun a => twoI a ds k k es 0) (fun a => twoI_good hd he (by omega)) (fun a x => by rw [twoI_step, hv, hve]) (by simp [twoI, It.text, It.core, It.tail, sp]) hl (by rw [e]; unfold dash; simp [hsl]; omega) (by rw [e]; simp [hd.ne]) hk h hf
  rw [e] at this
  rw [List.append_assoc]
  exact this

end Go.Proofs.YtcolffccbmpndaaDoor
