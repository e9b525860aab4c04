/- Texts of numbers and ranges: plain. -/
import Derived.Test.YtcolffccbmpndaaGreatDoorIgS
import Derived.Lib.AtoiTie
namespace Go.Proofs.YtcolffccbmpndaaGreatDoor

def sp (n : Nat) : List UInt8 := List.replicate n 32
theorem sp_at {n j : Nat} {b : UInt8} (h : (sp n)[j]? = some b) : b = 32 := by
  unfold sp at h
  rw [List.getElem?_replicate] at h
  split at h
  · exact (Option.some.inj h).symm
  · simp at h
theorem sp_mem {n : Nat} {b : UInt8} (h : b ∈ sp n) : b = 32 := (List.mem_replicate.1 h).2
theorem isSp32 : Lib.isSp 32 = true := by decide

/-- A byte of a text that is no blank. -/
def vis (x : UInt8) : Prop := Lib.isSp x = false ∧ x.toNat < 128

/-- Blanks on both sides are cut off. -/
theorem trim_mid (a d : Nat) (m : List UInt8) (x y : UInt8) (m1 m2 : List UInt8) (hx : m = x :: m1) (hy : m = m2 ++ [y]) (vx : vis x) (vy : vis y) : trimS (sp a ++ m ++ sp d) = m := by
  have hml : m.length = m1.length + 1 := by rw [hx]; simp
  have hml2 : m.length = m2.length + 1 := by rw [hy]; simp
  have hsa : (sp a).length = a := by simp [sp]
  have hsd : (sp d).length = d := by simp [sp]
  have b1 : ∀ (j : Nat) b, j < a → (sp a ++ m ++ sp d)[j]? = some b → Lib.isSp b = true := fun j b hj hb => by
    rw [List.append_assoc, List.getElem?_append_left (by rw [hsa]; exact hj)] at hb
    rw [sp_at hb]; exact isSp32
  have b2 : (sp a ++ m ++ sp d)[a]? = some x := by
    rw [List.append_assoc, List.getElem?_append_right (by rw [hsa]; exact Nat.le_refl _), hsa, Nat.sub_self, hx]
    rfl
  have b3 : (sp a ++ m ++ sp d)[a + m1.length]? = some y := by
    rw [List.append_assoc, List.getElem?_append_right (by rw [hsa]; omega), hsa, show a + m1.length - a = m2.length by omega, List.getElem?_append_left (by omega), hy]
    simp
  have b4 : ∀ (j : Nat) b, a + m1.length < j → (sp a ++ m ++ sp d)[j]? = some b → Lib.isSp b = true := fun j b hj hb => by
    rw [List.getElem?_append_right (by rw [List.length_append, hsa]; omega)] at hb
    rw [sp_at hb]; exact isSp32
  have h := Lib.exit_cut (sp a ++ m ++ sp d) a (a + m1.length) (by omega) (by rw [List.length_append, List.length_append, hsa, hml]; omega) b1 x b2 vx.1 vx.2 y b3 vy.1 vy.2 b4
  unfold trimS
  rw [h, List.append_assoc, List.drop_append, hsa, List.drop_eq_nil_of_le (by rw [hsa]; exact Nat.le_refl _), Nat.sub_self, List.drop_zero, List.nil_append, show a + m1.length + 1 - a = m.length by omega, List.take_append_of_le_length (Nat.le_refl _), List.take_length]

/-- Digits. -/
def isD (x : UInt8) : Prop := 48 ≤ x.toNat ∧ x.toNat ≤ 57
theorem isD_vis {x : UInt8} (h : isD x) : vis x := by
  refine ⟨?_, by have := h.2; omega⟩
  have h1 := h.1
  have h2 := h.2
  have hne : ∀ k : UInt8, k.toNat < 48 → x ≠ k := fun k hk e => by rw [e] at h1; omega
  unfold Lib.isSp
  simp [hne 9 (by decide), hne 10 (by decide), hne 11 (by decide), hne 12 (by decide), hne 13 (by decide), hne 32 (by decide)]
theorem isD_ne {x : UInt8} (h : isD x) {k : UInt8} (hk : k.toNat < 48) : x ≠ k := fun e => by have := h.1; rw [e] at this; omega
structure Ds (ds : List UInt8) : Prop where
  ne : ds ≠ []
  len : ds.length ≤ 4
  all : ∀ x ∈ ds, isD x
def val (ds : List UInt8) : Nat := ds.foldl (fun n x => 10 * n + (x.toNat - 48)) 0

theorem decFrom_val : ∀ (ds : List UInt8) (acc : Nat), (∀ x ∈ ds, isD x) → Lib.decFrom acc ds = some (ds.foldl (fun n x => 10 * n + (x.toNat - 48)) acc) := by
  intro ds
  induction ds with
  | nil => intro acc _; rfl
  | cons b t ih =>
    intro acc h
    have hb := h b (by simp)
    have hd : Lib.digitVal b = some (b.toNat - 48) := by unfold Lib.digitVal; rw [if_pos ⟨hb.1, hb.2⟩]
    unfold Lib.decFrom
    rw [hd]
    show Lib.decFrom (acc * 10 + (b.toNat - 48)) t = _
    rw [ih _ (fun x hx => h x (by simp [hx])), List.foldl_cons, Nat.mul_comm acc 10]
theorem atoiO_val {ds : List UInt8} (h : Ds ds) : atoiO ds = some (val ds : Int) := by
  have h1 := Lib.atoiAll_short ds (by have := h.len; omega)
  cases hds : ds with
  | nil => exact absurd hds h.ne
  | cons b t =>
    have hb : isD b := h.all b (by rw [hds]; simp)
    have h2 : Lib.atoi ds = some (val ds : Int) := by
      rw [hds]
      have e1 : (b == 45) = false := by simpa using isD_ne hb (k := 45) (by decide)
      have e2 : (b == 43) = false := by simpa using isD_ne hb (k := 43) (by decide)
      unfold Lib.atoi
      simp only [e1, e2, Bool.false_eq_true, if_false]
      unfold Lib.decNat
      rw [if_neg (by simp), decFrom_val _ _ (by rw [← hds]; exact h.all)]
      rfl
    rw [← hds]
    unfold atoiO
    rw [h1, h2]
    rfl
theorem val_lt {ds : List UInt8} (h : Ds ds) : val ds ≤ 9999 := by
  have step : ∀ (l : List UInt8) (acc : Nat), (∀ x ∈ l, isD x) → l.foldl (fun n x => 10 * n + (x.toNat - 48)) acc + 1 ≤ (acc + 1) * 10 ^ l.length := by
    intro l
    induction l with
    | nil => intro acc _; simp
    | cons b t ih =>
      intro acc hl
      have hb := hl b (by simp)
      have := ih (10 * acc + (b.toNat - 48)) (fun x hx => hl x (by simp [hx]))
      rw [List.foldl_cons, List.length_cons, Nat.pow_succ]
      have h9 : 10 * acc + (b.toNat - 48) + 1 ≤ (acc + 1) * 10 := by have := hb.2; omega
      calc _ ≤ (10 * acc + (b.toNat - 48) + 1) * 10 ^ t.length := this
        _ ≤ ((acc + 1) * 10) * 10 ^ t.length := Nat.mul_le_mul_right _ h9
        _ = (acc + 1) * (10 ^ t.length * 10) := by rw [Nat.mul_assoc, Nat.mul_comm 10]
  have h1 := step ds 0 h.all
  have h2 : 10 ^ ds.length ≤ 10 ^ 4 := Nat.pow_le_pow_right (by omega) h.len
  unfold val
  omega

/-- A number, or a range. -/
structure It where
  a : Nat
  ds : List UInt8
  b : Nat
  two : Option (Nat × List UInt8 × Nat)
def It.core (i : It) : List UInt8 := match i.two with
  | none => i.ds
  | some (c, es, _) => i.ds ++ sp i.b ++ 45 :: (sp c ++ es)
def It.tail (i : It) : Nat := match i.two with
  | none => i.b
  | some (_, _, d) => d
def It.text (i : It) : List UInt8 := sp i.a ++ i.core ++ sp i.tail
structure It.ok (i : It) : Prop where
  d : Ds i.ds
  e : ∀ c es d, i.two = some (c, es, d) → Ds es
def It.s (i : It) : Nat := val i.ds
def It.e? (i : It) : Option Nat := i.two.map (fun x => val x.2.1)

theorem ds_cons {ds : List UInt8} (h : Ds ds) : ∃ x t, ds = x :: t ∧ isD x := by
  cases hds : ds with
  | nil => exact absurd hds h.ne
  | cons x t => exact ⟨x, t, rfl, h.all x (by rw [hds]; simp)⟩
theorem ds_last {ds : List UInt8} (h : Ds ds) : ∃ t y, ds = t ++ [y] ∧ isD y := by
  refine ⟨ds.dropLast, ds.getLast h.ne, (List.dropLast_concat_getLast h.ne).symm, h.all _ (List.getLast_mem h.ne)⟩

theorem core_cons {i : It} (h : i.ok) : ∃ x t, i.core = x :: t ∧ isD x := by
  obtain ⟨x, t, hx, hd⟩ := ds_cons h.d
  unfold It.core
  split
  · exact ⟨x, t, hx, hd⟩
  · exact ⟨x, _, by rw [hx]; rfl, hd⟩
theorem core_last {i : It} (h : i.ok) : ∃ t y, i.core = t ++ [y] ∧ isD y := by
  unfold It.core
  split
  · exact ds_last h.d
  · rename_i c es d he
    obtain ⟨t, y, hy, hd⟩ := ds_last (h.e _ _ _ he)
    exact ⟨i.ds ++ sp i.b ++ 45 :: (sp c ++ t), y, by rw [hy]; simp, hd⟩

theorem trim_ds (a d : Nat) {ds : List UInt8} (h : Ds ds) : trimS (sp a ++ ds ++ sp d) = ds := by
  obtain ⟨x, t, hx, vx⟩ := ds_cons h
  obtain ⟨u, y, hy, vy⟩ := ds_last h
  exact trim_mid a d ds x y t u hx hy (isD_vis vx) (isD_vis vy)
theorem trim_text {i : It} (h : i.ok) : trimS i.text = i.core := by
  obtain ⟨x, t, hx, vx⟩ := core_cons h
  obtain ⟨u, y, hy, vy⟩ := core_last h
  exact trim_mid _ _ _ x y t u hx hy (isD_vis vx) (isD_vis vy)

theorem itemP_text {i : It} (h : i.ok) : itemP i.text = some ((i.s : Int), i.e?.map Int.ofNat) := by
  unfold itemP
  rw [trim_text h]
  have hnd : ∀ x ∈ i.ds, x ≠ 45 := fun x hx => isD_ne (h.d.all x hx) (by decide)
  unfold It.core It.e? It.s
  cases ht : i.two with
  | none =>
    simp only []
    rw [splitB_none hnd]
    have : trimS i.ds = i.ds := by have := trim_ds 0 0 h.d; simpa [sp] using this
    simp only [this, atoiO_val h.d]
    rfl
  | some x =>
    obtain ⟨c, es, d⟩ := x
    have he := h.e _ _ _ ht
    simp only []
    rw [splitB_at (c := 45) (sp c ++ es) (fun x hx => by
      rcases List.mem_append.1 hx with hx | hx
      · exact hnd x hx
      · rw [sp_mem hx]; decide), splitB_none (fun x hx => by
      rcases List.mem_append.1 hx with hx | hx
      · rw [sp_mem hx]; decide
      · exact isD_ne (he.all x hx) (by decide))]
    have h1 : trimS (i.ds ++ sp i.b) = i.ds := by have := trim_ds 0 i.b h.d; simpa [sp] using this
    have h2 : trimS (sp c ++ es) = es := by have := trim_ds c 0 he; simpa [sp] using this
    simp only [h1, h2, atoiO_val h.d, atoiO_val he]
    rfl

end Go.Proofs.YtcolffccbmpndaaGreatDoor
