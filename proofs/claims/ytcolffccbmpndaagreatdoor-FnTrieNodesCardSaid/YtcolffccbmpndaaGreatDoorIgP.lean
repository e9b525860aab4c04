/- Texts as lists of bytes; splitting: plain. -/
import Derived.Test.YtcolffccbmpndaaGreatDoorOwn
import Derived.Lib.Strings
namespace Go.Proofs.YtcolffccbmpndaaGreatDoor

/-- A string of bytes. -/
abbrev bs (l : List UInt8) : ByteArray := ⟨l.toArray⟩
theorem bs_size (l : List UInt8) : (bs l).size = l.length := by simp [ByteArray.size]
theorem bs_data (l : List UInt8) : (bs l).data.toList = l := by simp
theorem bs_of (s : ByteArray) : s = bs s.data.toList := rfl
theorem bs_extract (l : List UInt8) (a b : Nat) : (bs l).extract a b = bs ((l.take b).drop a) := by
  apply ByteArray.ext
  apply Array.ext'
  have h := Lib.extract_data (bs l) a b
  rw [bs_data] at h
  rw [h, bs_data, List.drop_take]

/-- The pieces between the bytes c. -/
def splitB (c : UInt8) : List UInt8 → List (List UInt8)
  | [] => [[]]
  | b :: t => if b = c then [] :: splitB c t else
    match splitB c t with
    | p :: ps => (b :: p) :: ps
    | [] => [[b]]
theorem splitB_ne (c : UInt8) : ∀ l, splitB c l ≠ []
  | [] => by simp [splitB]
  | b :: t => by
    unfold splitB
    split
    · simp
    · split <;> simp
theorem splitB_none {c : UInt8} : ∀ {l : List UInt8}, (∀ b ∈ l, b ≠ c) → splitB c l = [l]
  | [], _ => rfl
  | b :: t, h => by
    unfold splitB
    rw [if_neg (h b (by simp)), splitB_none (fun x hx => h x (by simp [hx]))]
theorem splitB_at {c : UInt8} : ∀ {a : List UInt8} (b : List UInt8), (∀ x ∈ a, x ≠ c) → splitB c (a ++ c :: b) = a :: splitB c b
  | [], b, _ => by simp [splitB]
  | x :: t, b, h => by
    rw [List.cons_append]
    conv => lhs; unfold splitB
    rw [if_neg (h x (by simp)), splitB_at b (fun y hy => h y (by simp [hy]))]

/-- Where c stands first. -/
def IsAt (c : UInt8) (l : List UInt8) (r : Int) : Prop := (r = -1 ∧ ∀ b ∈ l, b ≠ c) ∨ ∃ a b, l = a ++ c :: b ∧ r = a.length ∧ ∀ x ∈ a, x ≠ c

end Go.Proofs.YtcolffccbmpndaaGreatDoor
