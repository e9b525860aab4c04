/- Texts with a letter: plain. -/
import Derived.Test.YtcolffccbmpndaaGreatDoorTrLa
import Derived.Lib.SpaceUEq
namespace Go.Proofs.YtcolffccbmpndaaGreatDoor
set_option maxRecDepth 100000

def isL (x : UInt8) : Prop := 97 ≤ x.toNat ∧ x.toNat ≤ 122
theorem isL_ne {x : UInt8} (h : isL x) {k : UInt8} (hk : k.toNat < 97) : x ≠ k := fun e => by have := h.1; rw [e] at this; omega
theorem seq_noL : ∀ q ∈ Lib.spaceSeqs, ∀ b ∈ q, ¬ (97 ≤ b.toNat ∧ b.toNat ≤ 122) := by decide
theorem trimLeft_L {c : UInt8} (hc : isL c) : ∀ (f : Nat) (l : List UInt8), c ∈ l → c ∈ Lib.trimLeftD f l
  | 0, _, h => h
  | f + 1, l, h => by
    have hne : l ≠ [] := by rintro rfl; simp at h
    unfold Lib.trimLeftD
    rw [if_neg hne]
    split
    · rename_i hs
      have hq := (Lib.space_has_seq l hne hs).1
      refine trimLeft_L hc f _ ?_
      have h2 : c ∈ l.take (Lib.decodeL l).2 ++ l.drop (Lib.decodeL l).2 := by rw [List.take_append_drop]; exact h
      rcases List.mem_append.1 h2 with h2 | h2
      · exact absurd hc (seq_noL _ hq c h2)
      · exact h2
    · exact h
theorem trimRight_L {c : UInt8} (hc : isL c) : ∀ (f : Nat) (l : List UInt8), c ∈ l → c ∈ Lib.trimRightD f l
  | 0, _, h => h
  | f + 1, l, h => by
    have hne : l ≠ [] := by rintro rfl; simp at h
    unfold Lib.trimRightD
    rw [if_neg hne]
    split
    · rename_i hs
      have hq := Lib.space_has_seq_last l hne hs
      refine trimRight_L hc f _ ?_
      have h2 : c ∈ l.take (l.length - (Lib.decodeLastL l).2) ++ l.drop (l.length - (Lib.decodeLastL l).2) := by rw [List.take_append_drop]; exact h
      rcases List.mem_append.1 h2 with h2 | h2
      · exact h2
      · exact absurd hc (seq_noL _ hq c h2)
    · exact h
theorem trimS_L {c : UInt8} {l : List UInt8} (hc : isL c) (h : c ∈ l) : c ∈ trimS l := trimRight_L hc _ _ (trimLeft_L hc _ _ h)
theorem trimLeft_in : ∀ (f : Nat) (l : List UInt8), Lib.trimLeftD f l <:+: l
  | 0, l => List.infix_rfl
  | f + 1, l => by
    unfold Lib.trimLeftD
    split
    · rename_i h; rw [h]; exact List.infix_rfl
    · split
      · exact (trimLeft_in f _).trans (List.drop_suffix _ _).isInfix
      · exact List.infix_rfl
theorem trimRight_in : ∀ (f : Nat) (l : List UInt8), Lib.trimRightD f l <:+: l
  | 0, l => List.infix_rfl
  | f + 1, l => by
    unfold Lib.trimRightD
    split
    · rename_i h; rw [h]; exact List.infix_rfl
    · split
      · exact (trimRight_in f _).trans (List.take_prefix _ _).isInfix
      · exact List.infix_rfl
theorem trimS_in (l : List UInt8) : trimS l <:+: l := (trimRight_in _ _).trans (trimLeft_in _ _)

theorem splitB_in {c : UInt8} : ∀ (l : List UInt8), ∀ p ∈ splitB c l, p <:+: l ∧ ∀ x ∈ p, x ≠ c := by
  have key : ∀ (l : List UInt8), (∀ p ps, splitB c l = p :: ps → p <+: l) ∧ (∀ p ∈ splitB c l, p <:+: l ∧ ∀ x ∈ p, x ≠ c) := by
    intro l
    induction l with
    | nil =>
      refine ⟨fun p ps h => ?_, fun p hp => ?_⟩
      · simp [splitB] at h; rw [← h.1]; exact List.prefix_rfl
      · simp [splitB] at hp; subst hp; exact ⟨List.infix_rfl, by simp⟩
    | cons b t ih =>
      obtain ⟨i1, i2⟩ := ih
      unfold splitB
      split
      · refine ⟨fun p ps h => ?_, fun p hp => ?_⟩
        · simp only [List.cons.injEq] at h; rw [← h.1]; exact List.nil_prefix
        · rcases List.mem_cons.1 hp with rfl | hp
          · exact ⟨List.nil_infix, by simp⟩
          · exact ⟨(i2 p hp).1.trans (List.suffix_cons b t).isInfix, (i2 p hp).2⟩
      · rename_i hb
        cases hs : splitB c t with
        | nil => exact absurd hs (splitB_ne c t)
        | cons q qs =>
          have hq := i1 q qs hs
          have hq2 := i2 q (by rw [hs]; simp)
          refine ⟨fun p ps h => ?_, fun p hp => ?_⟩
          · simp at h; rw [← h.1]; exact List.cons_prefix_cons.2 ⟨rfl, hq⟩
          · rcases List.mem_cons.1 hp with rfl | hp
            · refine ⟨(List.cons_prefix_cons.2 ⟨rfl, hq⟩).isInfix, fun x hx => ?_⟩
              rcases List.mem_cons.1 hx with rfl | hx
              · exact hb
              · exact hq2.2 x hx
            · have := i2 p (by rw [hs]; simp [hp])
              exact ⟨this.1.trans (List.suffix_cons b t).isInfix, this.2⟩
  exact fun l => (key l).2
theorem splitB_L {c k : UInt8} (hk : c ≠ k) : ∀ (l : List UInt8), c ∈ l → ∃ p ∈ splitB k l, c ∈ p
  | [], h => by simp at h
  | b :: t, h => by
    unfold splitB
    split
    · rename_i hb
      rcases List.mem_cons.1 h with rfl | h
      · exact absurd hb hk
      · obtain ⟨p, hp, h2⟩ := splitB_L hk t h
        exact ⟨p, by simp [hp], h2⟩
    · cases hs : splitB k t with
      | nil => exact absurd hs (splitB_ne k t)
      | cons q qs =>
        rcases List.mem_cons.1 h with rfl | h
        · exact ⟨c :: q, by simp, by simp⟩
        · obtain ⟨p, hp, h2⟩ := splitB_L hk t h
          rw [hs] at hp
          rcases List.mem_cons.1 hp with rfl | hp
          · exact ⟨b :: p, by simp, by simp [h2]⟩
          · exact ⟨p, by simp [hp], h2⟩

theorem parse10 : ∀ (l : List UInt8) (acc u : Nat), Lib.parseUint10 acc l = .ok u → (∀ x ∈ l, isD x) ∧ u = l.foldl (fun n x => 10 * n + (x.toNat - 48)) acc
  | [], acc, u, h => by
    simp only [Lib.parseUint10] at h
    injection h with h
    exact ⟨by simp, h.symm⟩
  | c :: r, acc, u, h => by
    unfold Lib.parseUint10 at h
    split at h
    · rename_i hc
      split at h
      · cases h
      · split at h
        · cases h
        · obtain ⟨h1, h2⟩ := parse10 r _ u h
          refine ⟨fun x hx => ?_, ?_⟩
          · rcases List.mem_cons.1 hx with rfl | hx
            · exact hc
            · exact h1 x hx
          · rw [h2, List.foldl_cons, Nat.mul_comm]
    · cases h
/-- What strconv.Atoi reads. -/
theorem atoiO_some {l : List UInt8} {n : Int} (h : atoiO l = some n) : ∃ r, (l = r ∨ ∃ s, l = s :: r ∧ (s.toNat = 43 ∨ s.toNat = 45)) ∧ (∀ x ∈ r, isD x) ∧ ((∀ x ∈ l, x ≠ 45) → n = (val r : Int)) := by
  unfold atoiO at h
  split at h
  · rename_i v hv
    simp only [Option.some.injEq] at h
    subst h
    unfold Lib.atoiAll at hv
    split at hv
    · cases hv
    · rename_i c r
      have hmag : ∀ (m : List UInt8) (u : Nat), Lib.parseMag m = .ok u → (∀ x ∈ m, isD x) ∧ u = val m := fun m u hm => by
        unfold Lib.parseMag at hm
        split at hm
        · cases hm
        · exact parse10 m 0 u hm
      cases hu : Lib.parseMag (if c.toNat = 43 ∨ c.toNat = 45 then r else c :: r)
      case ok u =>
        simp only [hu] at hv
        obtain ⟨h1, h2⟩ := hmag _ u hu
        split at hv
        · cases hv
        · split at hv
          · cases hv
          · injection hv with hv
            by_cases hs : c.toNat = 43 ∨ c.toNat = 45
            · rw [if_pos hs] at h1 h2
              refine ⟨r, .inr ⟨c, rfl, hs⟩, h1, fun h45 => ?_⟩
              have hc : ¬ c.toNat = 45 := fun e => h45 c (by simp) (UInt8.toNat_inj.1 (by rw [e]; rfl))
              rw [if_neg hc] at hv
              rw [← hv, h2]
            · rw [if_neg hs] at h1 h2
              refine ⟨c :: r, .inl rfl, h1, fun h45 => ?_⟩
              have hc : ¬ c.toNat = 45 := fun e => hs (.inr e)
              rw [if_neg hc] at hv
              rw [← hv, h2]
      all_goals simp [hu] at hv
  · cases h

/-- Rows of digits are short. -/
def Runs (l : List UInt8) : Prop := ∀ m, m <:+: l → (∀ x ∈ m, isD x) → m.length ≤ 4
theorem val4 {m : List UInt8} (h : ∀ x ∈ m, isD x) (hl : m.length ≤ 4) : val m ≤ 9999 := by
  cases m with
  | nil => simp [val]
  | cons x t => exact val_lt ⟨by simp, hl, h⟩
theorem atoi_small {t l : List UInt8} {n : Int} (hr : Runs t) (hl : l <:+: t) (h45 : ∀ x ∈ l, x ≠ 45) (h : atoiO l = some n) : 0 ≤ n ∧ n ≤ 9999 := by
  obtain ⟨r, h1, h2, h3⟩ := atoiO_some h
  have hri : r <:+: l := by
    rcases h1 with rfl | ⟨s, rfl, -⟩
    · exact List.infix_rfl
    · exact (List.suffix_cons s r).isInfix
  have := val4 h2 (hr r (hri.trans hl) h2)
  rw [h3 h45]
  omega
theorem small_of {t p : List UInt8} (hr : Runs t) (hp : p <:+: t) : smallI p := by
  intro s e h
  have hin : ∀ a ∈ splitB 45 (trimS p), trimS a <:+: t ∧ ∀ x ∈ trimS a, x ≠ 45 := fun a ha => by
    obtain ⟨h1, h2⟩ := splitB_in (trimS p) a ha
    exact ⟨(((trimS_in a).trans h1).trans (trimS_in p)).trans hp, fun x hx => h2 x ((trimS_in a).subset hx)⟩
  unfold itemP at h
  split at h
  · rename_i a hs
    obtain ⟨i1, i2⟩ := hin a (by rw [hs]; simp)
    simp only [Option.map_eq_some_iff, Prod.mk.injEq] at h
    obtain ⟨n, hn, rfl, rfl⟩ := h
    obtain ⟨h1, h2⟩ := atoi_small hr i1 i2 hn
    exact ⟨h1, h2, by simp⟩
  · rename_i a b hs
    obtain ⟨i1, i2⟩ := hin a (by rw [hs]; simp)
    obtain ⟨j1, j2⟩ := hin b (by rw [hs]; simp)
    simp only [Option.bind_eq_some_iff, Option.map_eq_some_iff, Prod.mk.injEq] at h
    obtain ⟨m, hm, n, hn, rfl, rfl⟩ := h
    obtain ⟨h1, h2⟩ := atoi_small hr i1 i2 hn
    refine ⟨h1, h2, fun t ht => ?_⟩
    simp only [Option.some.injEq] at ht
    subst ht
    exact atoi_small hr j1 j2 hm
  · cases h
theorem isL_notD {c : UInt8} (hc : isL c) : ¬ isD c := fun h => by have h1 := hc.1; have h2 := h.2; omega
theorem atoi_L {c : UInt8} {l : List UInt8} (hc : isL c) (h : c ∈ l) : atoiO l = none := by
  cases e : atoiO l with
  | none => rfl
  | some n =>
    exfalso
    obtain ⟨r, h1, h2, -⟩ := atoiO_some e
    rcases h1 with rfl | ⟨s, rfl, hs⟩
    · exact isL_notD hc (h2 c h)
    · rcases List.mem_cons.1 h with rfl | h
      · have := hc.1; omega
      · exact isL_notD hc (h2 c h)
theorem item_L {c : UInt8} {p : List UInt8} (hc : isL c) (h : c ∈ p) : itemP p = none := by
  obtain ⟨a, ha, hca⟩ := splitB_L (isL_ne hc (k := 45) (by decide)) (trimS p) (trimS_L hc h)
  have hn := atoi_L hc (trimS_L hc hca)
  unfold itemP
  split
  · rename_i a' hs
    rw [hs] at ha
    simp at ha
    subst ha
    rw [hn]; rfl
  · rename_i a' b' hs
    rw [hs] at ha
    simp at ha
    rcases ha with rfl | rfl
    · rw [hn]; cases atoiO (trimS b') <;> rfl
    · rw [hn]; rfl
  · rfl
theorem runP_L : ∀ (ps : List (List UInt8)) (x : Nat × (Nat → Bool)), (∃ p ∈ ps, itemP p = none) → runP x ps = none
  | [], _, h => by obtain ⟨p, hp, -⟩ := h; simp at hp
  | p :: ps, x, h => by
    cases e : itemP p with
    | none => exact runP_none e
    | some se =>
      obtain ⟨s, t⟩ := se
      rw [runP_some e]
      obtain ⟨q, hq, h2⟩ := h
      rcases List.mem_cons.1 hq with rfl | hq
      · rw [h2] at e; cases e
      · exact runP_L ps _ ⟨q, hq, h2⟩
theorem parse_L {c : UInt8} {l : List UInt8} (hc : isL c) (h : c ∈ l) : parseP l = none := by
  unfold parseP
  rw [if_neg (by rintro rfl; simp at h)]
  obtain ⟨p, hp, h2⟩ := splitB_L (isL_ne hc (k := 44) (by decide)) (trimS l) (trimS_L hc h)
  exact runP_L _ _ ⟨p, hp, item_L hc h2⟩
theorem runs_mid {c : UInt8} {A B : List UInt8} (hc : isL c) (hA : Runs A) (hB : Runs B) : Runs (A ++ c :: B) := by
  intro m hm hd
  have hcm : c ∉ m := fun h => isL_notD hc (hd c h)
  obtain ⟨s, t, e⟩ := hm
  rw [List.append_assoc] at e
  rcases List.append_eq_append_iff.1 e with ⟨x, e1, e2⟩ | ⟨x, e1, e2⟩
  · rcases List.append_eq_append_iff.1 e2 with ⟨y, e3, e4⟩ | ⟨y, e3, e4⟩
    · refine hA m ⟨s, y, ?_⟩ hd
      rw [e1, e3, List.append_assoc]
    · cases y with
      | nil =>
        refine hA m ⟨s, [], ?_⟩ hd
        rw [e1, e3]; simp
      | cons z y =>
        simp at e4
        exact absurd (by rw [e3, e4.1]; simp) hcm
  · cases x with
    | nil =>
      simp only [List.nil_append] at e2
      cases m with
      | nil => simp
      | cons z m =>
        simp at e2
        exact absurd (by rw [e2.1]; simp) hcm
    | cons z x =>
      simp at e2
      refine hB m ⟨x, t, ?_⟩ hd
      rw [e2.2, List.append_assoc]
theorem small_mid {c : UInt8} {A B : List UInt8} (hc : isL c) (hA : Runs A) (hB : Runs B) : ∀ p ∈ splitB 44 (trimS (A ++ c :: B)), smallI p := fun p hp =>
  small_of (runs_mid hc hA hB) ((splitB_in _ p hp).1.trans (trimS_in _))

/-- Runs of a text, byte by byte. -/
structure Scan (l : List UInt8) (d : Nat) : Prop where
  runs : Runs l
  last : ∀ m, m <:+ l → (∀ x ∈ m, isD x) → m.length ≤ d
theorem scan_nil : Scan [] 0 := ⟨fun m h _ => by simp at h; simp [h], fun m h _ => by simp at h; simp [h]⟩
theorem infix_snoc {m l : List UInt8} {x : UInt8} (h : m <:+: l ++ [x]) : m <:+: l ∨ m <:+ l ++ [x] := by
  obtain ⟨s, t, e⟩ := h
  rcases List.eq_nil_or_concat t with rfl | ⟨t', y, rfl⟩
  · right; exact ⟨s, by simpa using e⟩
  · left
    have e' : (s ++ m ++ t') ++ [y] = l ++ [x] := by simpa using e
    have := List.append_inj' e' rfl
    exact ⟨s, t', this.1⟩
theorem scan_other {l : List UInt8} {d : Nat} {x : UInt8} (h : Scan l d) (hx : ¬ isD x) : Scan (l ++ [x]) 0 := by
  have hsuf : ∀ m, m <:+ l ++ [x] → (∀ y ∈ m, isD y) → m = [] := fun m hm hd => by
    obtain ⟨s, e⟩ := hm
    rcases List.eq_nil_or_concat m with rfl | ⟨m', y, rfl⟩
    · rfl
    · have e' : (s ++ m') ++ [y] = l ++ [x] := by simpa using e
      have h2 := (List.append_inj' e' rfl).2
      simp at h2
      exact absurd (hd y (by simp)) (by rw [h2]; exact hx)
  refine ⟨fun m hm hd => ?_, fun m hm hd => by rw [hsuf m hm hd]; simp⟩
  rcases infix_snoc hm with h1 | h1
  · exact h.runs m h1 hd
  · rw [hsuf m h1 hd]; simp
theorem scan_digit {l : List UInt8} {d : Nat} {x : UInt8} (h : Scan l d) (hd4 : d + 1 ≤ 4) : Scan (l ++ [x]) (d + 1) := by
  have hsuf : ∀ m, m <:+ l ++ [x] → (∀ y ∈ m, isD y) → m.length ≤ d + 1 := fun m hm hd => by
    obtain ⟨s, e⟩ := hm
    rcases List.eq_nil_or_concat m with rfl | ⟨m', y, rfl⟩
    · simp
    · have e' : (s ++ m') ++ [y] = l ++ [x] := by simpa using e
      have h2 := (List.append_inj' e' rfl).1
      have := h.last m' ⟨s, h2⟩ (fun z hz => hd z (by simp [hz]))
      simp; omega
  refine ⟨fun m hm hd => ?_, hsuf⟩
  rcases infix_snoc hm with h1 | h1
  · exact h.runs m h1 hd
  · have := hsuf m h1 hd; omega

end Go.Proofs.YtcolffccbmpndaaGreatDoor
