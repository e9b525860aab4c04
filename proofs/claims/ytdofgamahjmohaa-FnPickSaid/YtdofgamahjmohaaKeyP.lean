/- Keys with versions as lists of bytes, and how two of them compare: plain. -/
import Derived.Lib.BytesEntry
namespace Go.Proofs.Ytdofgamahjmohaa

/-- Two lists of bytes compared: the first that differs decides, a beginning is less. -/
def cmpI : List Int → List Int → Int
  | [], [] => 0
  | [], _ :: _ => -1
  | _ :: _, [] => 1
  | a :: as, b :: bs => if a < b then -1 else if b < a then 1 else cmpI as bs

theorem cmpI_self : ∀ l, cmpI l l = 0
  | [] => rfl
  | a :: l => by unfold cmpI; rw [if_neg (by omega), if_neg (by omega)]; exact cmpI_self l

theorem cmpI_anti : ∀ a b, cmpI b a = - cmpI a b
  | [], [] => rfl
  | [], _ :: _ => rfl
  | _ :: _, [] => rfl
  | x :: a, y :: b => by
    unfold cmpI
    by_cases h1 : x < y
    · rw [if_pos h1, if_neg (by omega), if_pos h1]; rfl
    · by_cases h2 : y < x
      · rw [if_pos h2, if_neg h1, if_pos h2]
      · rw [if_neg h2, if_neg h1, if_neg h1, if_neg h2]; exact cmpI_anti a b

theorem cmpI_three : ∀ a b, cmpI a b = -1 ∨ cmpI a b = 0 ∨ cmpI a b = 1
  | [], [] => .inr (.inl rfl)
  | [], _ :: _ => .inl rfl
  | _ :: _, [] => .inr (.inr rfl)
  | x :: a, y :: b => by
    unfold cmpI
    split
    · exact .inl rfl
    · split
      · exact .inr (.inr rfl)
      · exact cmpI_three a b

theorem cmpI_eq : ∀ {a b : List Int}, cmpI a b = 0 → a = b
  | [], [], _ => rfl
  | [], _ :: _, h => by simp [cmpI] at h
  | _ :: _, [], h => by simp [cmpI] at h
  | x :: a, y :: b, h => by
    unfold cmpI at h
    split at h
    · simp at h
    · split at h
      · simp at h
      · rw [cmpI_eq h, show x = y by omega]

theorem cmpI_app : ∀ {a b : List Int} (c d : List Int), a.length = b.length → cmpI (a ++ c) (b ++ d) = if cmpI a b = 0 then cmpI c d else cmpI a b
  | [], [], _, _, _ => by simp [cmpI]
  | [], _ :: _, _, _, h => by simp at h
  | _ :: _, [], _, _, h => by simp at h
  | x :: a, y :: b, c, d, h => by
    have ih := cmpI_app (a := a) (b := b) c d (by simpa using h)
    simp only [List.cons_append, cmpI]
    by_cases h1 : x < y
    · simp [h1]
    · by_cases h2 : y < x
      · simp [h1, h2]
      · simp only [h1, h2, if_false]; exact ih

theorem cmpI_trans : ∀ {a b c : List Int}, cmpI a b < 0 → cmpI b c < 0 → cmpI a c < 0
  | [], [], _, h, _ => by simp [cmpI] at h
  | [], _ :: _, [], _, h => by simp [cmpI] at h
  | [], _ :: _, _ :: _, _, _ => by simp [cmpI]
  | _ :: _, [], _, h, _ => by simp [cmpI] at h
  | _ :: _, _ :: _, [], _, h => by simp [cmpI] at h
  | x :: a, y :: b, z :: c, h1, h2 => by
    unfold cmpI at h1 h2 ⊢
    by_cases e1 : x < y
    · by_cases e2 : y < z
      · rw [if_pos (by omega)]; decide
      · rw [if_neg e2] at h2
        by_cases e3 : z < y
        · rw [if_pos e3] at h2; simp at h2
        · rw [if_pos (by omega)]; decide
    · rw [if_neg e1] at h1
      by_cases e2 : y < x
      · rw [if_pos e2] at h1; simp at h1
      · rw [if_neg e2] at h1
        by_cases e3 : y < z
        · rw [if_pos (by omega)]; decide
        · rw [if_neg e3] at h2
          by_cases e4 : z < y
          · rw [if_pos e4] at h2; simp at h2
          · rw [if_neg e4] at h2
            rw [if_neg (by omega), if_neg (by omega)]
            exact cmpI_trans h1 h2

/-- The library's comparison is this one. -/
theorem cmpI_lib : ∀ (a b : List Int), (∀ x ∈ a, 0 ≤ x ∧ x < 256) → (∀ x ∈ b, 0 ≤ x ∧ x < 256) → Lib.compareBytes (Lib.bytesOf a) (Lib.bytesOf b) = cmpI a b
  | [], [], _, _ => rfl
  | [], _ :: _, _, _ => rfl
  | _ :: _, [], _, _ => rfl
  | x :: a, y :: b, ha, hb => by
    have ih := cmpI_lib a b (fun z hz => ha z (List.mem_cons_of_mem _ hz)) (fun z hz => hb z (List.mem_cons_of_mem _ hz))
    have hx := ha x List.mem_cons_self
    have hy := hb y List.mem_cons_self
    have lt : ∀ p q : Int, 0 ≤ p ∧ p < 256 → 0 ≤ q ∧ q < 256 → ((UInt8.ofNat p.toNat < UInt8.ofNat q.toNat) ↔ p < q) := by
      intro p q hp hq
      rw [UInt8.lt_iff_toNat_lt, UInt8.toNat_ofNat', UInt8.toNat_ofNat']
      omega
    show (if UInt8.ofNat x.toNat < UInt8.ofNat y.toNat then (-1 : Int) else if UInt8.ofNat y.toNat < UInt8.ofNat x.toNat then 1 else Lib.compareBytes (Lib.bytesOf a) (Lib.bytesOf b)) = _
    unfold cmpI
    simp only [lt x y hx hy, lt y x hy hx, ih]

/-- Numbers with the highest byte first. -/
def be16 (v : Int) : List Int := [v / 256, v % 256]
def be32 (v : Int) : List Int := be16 (v / 65536) ++ be16 (v % 65536)
def be64 (v : Int) : List Int := be32 (v / 4294967296) ++ be32 (v % 4294967296)

def sg (a b : Int) : Int := if a < b then -1 else if b < a then 1 else 0

theorem be16_len (v : Int) : (be16 v).length = 2 := rfl
theorem be32_len (v : Int) : (be32 v).length = 4 := rfl
theorem be64_len (v : Int) : (be64 v).length = 8 := rfl

theorem be16_app (v w : Int) (c d : List Int) : cmpI (be16 v ++ c) (be16 w ++ d) = if cmpI (be16 v) (be16 w) = 0 then cmpI c d else cmpI (be16 v) (be16 w) := cmpI_app c d rfl
theorem be32_app (v w : Int) (c d : List Int) : cmpI (be32 v ++ c) (be32 w ++ d) = if cmpI (be32 v) (be32 w) = 0 then cmpI c d else cmpI (be32 v) (be32 w) := cmpI_app c d rfl

theorem be16_cmp {v w : Int} (_ : 0 ≤ v ∧ v < 65536) (_ : 0 ≤ w ∧ w < 65536) : cmpI (be16 v) (be16 w) = sg v w := by
  unfold be16 sg
  simp only [cmpI]
  repeat' split
  all_goals omega

theorem be32_cmp {v w : Int} (hv : 0 ≤ v ∧ v < 4294967296) (hw : 0 ≤ w ∧ w < 4294967296) : cmpI (be32 v) (be32 w) = sg v w := by
  unfold be32
  rw [be16_app, be16_cmp (by omega) (by omega), be16_cmp (by omega) (by omega)]
  unfold sg
  repeat' split
  all_goals omega

theorem be64_cmp {v w : Int} (hv : 0 ≤ v ∧ v ≤ 18446744073709551615) (hw : 0 ≤ w ∧ w ≤ 18446744073709551615) : cmpI (be64 v) (be64 w) = sg v w := by
  unfold be64
  rw [be32_app, be32_cmp (by omega) (by omega), be32_cmp (by omega) (by omega)]
  unfold sg
  repeat' split
  all_goals omega

theorem be16_b {v : Int} (h : 0 ≤ v ∧ v < 65536) : ∀ x ∈ be16 v, 0 ≤ x ∧ x < 256 := by
  intro x hx
  simp only [be16, List.mem_cons, List.not_mem_nil, or_false] at hx
  omega
theorem be64_b {v : Int} (h : 0 ≤ v ∧ v ≤ 18446744073709551615) : ∀ x ∈ be64 v, 0 ≤ x ∧ x < 256 := by
  intro x hx
  unfold be64 be32 at hx
  simp only [List.mem_append] at hx
  rcases hx with (hx | hx) | (hx | hx) <;> exact be16_b (by omega) x hx

/-- A key with a version. -/
structure Kv where
  key : List Int
  ver : Int
instance : Inhabited Kv := ⟨⟨[], 0⟩⟩
def kts (v : Int) : List Int := be64 (18446744073709551615 - v)
def kb (k : Kv) : List Int := k.key ++ kts k.ver
theorem kts_len (v : Int) : (kts v).length = 8 := rfl

/-- Keys with versions, compared: by the keys, and of one key the higher version comes first. -/
def kcmp (a b : Kv) : Int := if cmpI a.key b.key = 0 then sg b.ver a.ver else cmpI a.key b.key

def okV (v : Int) : Prop := 0 ≤ v ∧ v ≤ 18446744073709551615
theorem kts_cmp {v w : Int} (hv : okV v) (hw : okV w) : cmpI (kts v) (kts w) = sg w v := by
  unfold kts
  unfold okV at hv hw
  rw [be64_cmp (by omega) (by omega)]
  unfold sg
  repeat' split
  all_goals omega

theorem sg_anti (a b : Int) : sg b a = - sg a b := by
  unfold sg
  repeat' split
  all_goals omega

theorem kcmp_anti (a b : Kv) : kcmp b a = - kcmp a b := by
  unfold kcmp
  rw [cmpI_anti a.key b.key, sg_anti b.ver a.ver]
  by_cases h : cmpI a.key b.key = 0
  · rw [if_pos (by omega), if_pos h]
  · rw [if_neg (by omega), if_neg h]

end Go.Proofs.Ytdofgamahjmohaa
