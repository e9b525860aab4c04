/- notifyAndRemove: the closure inside processOne. -/
import Derived.Test.YtaheafmdkbobcaaOps
namespace Go.Proofs.Ytaheafmdkbobcaa
open Go.RowKit

/-- A pointer to the head of block b. -/
abbrev ptr (b : Nat) : Value := .pointer (some ⟨b, 0, none⟩)

/-- The flag of the waiter in block b. -/
def FlagAt (w : World) (b : Nat) (f : Bool) : Prop := w.heap[b]? = some (.cells #[.bool f] 56 (0, 0))

theorem own_get {w : World} {base e g n cap : Nat} {xs : List Value} (h : w.ownsRow base e 1 (.slice (some ⟨g, 0, none⟩) n cap) n xs) {k : Nat} (hk : k < n) (d : Value) : w.cell? ⟨g, k, none⟩ = some (xs.getD k d) := by
  have hl := h.1
  rw [h.cellAt k (by omega)]
  simp [List.getD, show k < xs.length by omega]

set_option maxHeartbeats 800000 in
theorem notify_any (idx : Int) (g cap qbx qb : Nat) (bs : List Nat) (w : World) (R : World → Prop) (hown : w.ownsRow 0 51 1 (.slice (some ⟨g, 0, none⟩) bs.length cap) bs.length (bs.map ptr)) (hflag : ∀ b ∈ bs, ∃ f, FlagAt w b f)
    (hbox : w.heap[qbx]? = some (.cells #[.map (some qb)] 60 (0, 0))) (hmx : bs.length ≤ 100000000)
    (hdel : ∀ w1 ty, Tch bs w w1 → (∀ b ∈ bs, FlagAt w1 b true) → ∃ w2, (Builtin.delete_ #[60, 28] ty #[.map (some qb), .int .u64 idx]).run Try.prog w1 = .ok (.tuple #[]) w2 ∧ R w2) :
    Calls Try.prog 40 #[.int .u64 idx, .slice (some ⟨g, 0, none⟩) bs.length cap, ptr qbx] w fun e w' => e = .returned (.tuple #[]) ∧ R w' := by
  have hgb : ∀ b ∈ bs, b ≠ g := by
    intro b hb e
    obtain ⟨f, hf⟩ := hflag b hb
    obtain ⟨cur, hc⟩ := ownsRow_block hown (g := g) rfl
    subst e
    rw [FlagAt, hc] at hf; simp at hf
  have hqb : ∀ b ∈ bs, b ≠ qbx := by
    intro b hb e
    obtain ⟨f, hf⟩ := hflag b hb
    subst e
    rw [FlagAt, hbox] at hf; simp at hf
  go_enter Try.func40, Try.ntmps40
  go_wp2
  go_loopw [9] (fun v wr => ∃ k : Nat, k ≤ bs.length ∧ v = .int .i64 k ∧ Tch bs w wr ∧ (∀ b ∈ bs.take k, FlagAt wr b true) ∧ (∀ b ∈ bs, ∃ f, FlagAt wr b f)) (fun v _ => bs.length - (intOf v).toNat)
  case atStart => exact ⟨0, Nat.zero_le _, rfl, Tch.refl _ _, by simp, hflag⟩
  case round =>
    obtain ⟨k, hk, rfl, ht, hd, hf⟩ := hrel
    have hown' := ht.own hown (by intro g' hg' hm; simp [Value.ownBlock] at hg'; exact hgb _ hm hg'.symm)
    have hbox' := ht.cells hbox (fun hm => hqb _ hm rfl)
    by_cases hlt : k < bs.length
    · have c0 := own_get hown' hlt (.pointer none)
      have hbk : (bs.map ptr).getD k (.pointer none) = ptr bs[k] := by simp [List.getD, hlt]
      rw [hbk] at c0
      have hmem : bs[k] ∈ bs := List.getElem_mem hlt
      obtain ⟨f, hfk⟩ := hf _ hmem
      have T1 : Tch bs w (wr.setCell ⟨bs[k], 0, none⟩ (.bool true)) := ht.setCell (p := ⟨bs[k], 0, none⟩) (fun _ => hmem) _
      have F1 : FlagAt (wr.setCell ⟨bs[k], 0, none⟩ (.bool true)) bs[k] true := by
        have := heap_setCell_same wr bs[k] 0 #[.bool f] 56 (.bool true) hfk
        simpa [FlagAt] using this
      have F2 : ∀ b f', b ≠ bs[k] → FlagAt wr b f' → FlagAt (wr.setCell ⟨bs[k], 0, none⟩ (.bool true)) b f' := by
        intro b f' hne h
        exact (Below.heap_setCell _ _ _ _ (by simpa using hne)).trans h
      have HREL : (∀ b ∈ bs.take (k + 1), FlagAt (wr.setCell ⟨bs[k], 0, none⟩ (.bool true)) b true) ∧ (∀ b ∈ bs, ∃ f, FlagAt (wr.setCell ⟨bs[k], 0, none⟩ (.bool true)) b f) := by
        constructor
        · intro b hb
          by_cases e : b = bs[k]
          · rw [e]; exact F1
          · rw [List.take_succ_eq_append_getElem hlt] at hb
            rcases List.mem_append.1 hb with hb | hb
            · exact F2 _ _ e (hd b hb)
            · simp at hb; exact absurd hb e
        · intro b hb
          by_cases e : b = bs[k]
          · rw [e]; exact ⟨_, F1⟩
          · obtain ⟨f', h'⟩ := hf b hb
            exact ⟨f', F2 _ _ e h'⟩
      have c1 := cell_of_one hfk
      have f1 := free_of_one hfk
      have HR := Lib.hid HREL
      have HT := Lib.hid T1
      clear HREL T1 F1 F2 hbk hown' hf hd hfk hgb hqb hdel hflag hown
      generalize hbb : bs[k] = bk at *
      have HBB := Lib.hid hbb
      clear hbb
      have h1 : (k : Int) < bs.length := by omega
      go_wp2
      go_roundw
      case rel => exact ⟨k + 1, by omega, by go_num, HT.out, HR.out.1, HR.out.2⟩
      case measure => simp [intOf]; omega
    · have hke : k = bs.length := by omega
      subst hke
      rw [List.take_length] at hd
      have c0 := cell_of_one hbox'
      go_wp2_with (at_delete; refine wpList_delete_run rfl _ _ 60 28 rfl _ _ rfl rfl R (hdel _ _ ht hd) ?_; intro w2 hR)
      go_end0
      exact ⟨rfl, hR⟩

end Go.Proofs.Ytaheafmdkbobcaa
