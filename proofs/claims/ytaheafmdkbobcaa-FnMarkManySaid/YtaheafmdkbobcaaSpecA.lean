/- spec's water mark in memory: find and begin. -/
import Derived.Test.YtaheafmdkbobcaaLit
namespace Go.Proofs.Ytaheafmdkbobcaa
open Go.RowKit

/-- An index that has begun: how often, how often it has been done. -/
abbrev Cn := Int × Int × Int
def cCells (p : Cn) : List Value := [.int .u64 p.1, .int .i64 p.2.1, .int .i64 p.2.2]

structure TdAt (w : World) (tb : Nat) (va vw : Value) (all : List Cn) (til last : Int) (ws : List Int) : Prop where
  str : w.heap[tb]? = some (.cells #[va, .int .u64 til, .int .u64 last, vw] 44 (0, 0))
  arow : w.ownsRow 0 69 3 va all.length (all.flatMap cCells)
  wrow : w.ownsRow 0 28 1 vw ws.length (U ws)

def tfoot (tb : Nat) (va vw : Value) : List Nat := tb :: (va.ownBlock.toList ++ vw.ownBlock.toList)

theorem mem_tfoot {tb : Nat} {va vw : Value} {k : Nat} : k ∈ tfoot tb va vw ↔ k = tb ∨ va.ownBlock = some k ∨ vw.ownBlock = some k := by
  simp only [tfoot, List.mem_cons, List.mem_append]
  constructor
  · rintro (h | h | h)
    · exact .inl h
    · right; left; cases hv : va.ownBlock <;> simp_all
    · right; right; cases hv : vw.ownBlock <;> simp_all
  · rintro (h | h | h)
    · exact .inl h
    · right; left; rw [h]; simp
    · right; right; rw [h]; simp

section
variable {w w' : World} {tb : Nat} {va vw : Value} {all : List Cn} {til last : Int} {ws : List Int}

theorem TdAt.tch {S : List Nat} (h : TdAt w tb va vw all til last ws) (t : Tch S w w') (hd : ∀ k ∈ tfoot tb va vw, k ∉ S) : TdAt w' tb va vw all til last ws :=
  ⟨t.obj h.str (hd _ (mem_tfoot.2 (.inl rfl))), t.own h.arow (fun k hk => hd k (mem_tfoot.2 (.inr (.inl hk)))), t.own h.wrow (fun k hk => hd k (mem_tfoot.2 (.inr (.inr hk))))⟩

theorem TdAt.lt (h : TdAt w tb va vw all til last ws) : ∀ k ∈ tfoot tb va vw, k < w.heap.size := by
  intro k hk
  rcases mem_tfoot.1 hk with rfl | hk | hk
  · exact lt_of_obj h.str
  · exact own_lt h.arow hk
  · exact own_lt h.wrow hk

theorem TdAt.facts (h : TdAt w tb va vw all til last ws) : w.cell? ⟨tb, 0, none⟩ = some va ∧ w.cell? ⟨tb, 1, none⟩ = some (.int .u64 til) ∧ w.cell? ⟨tb, 2, none⟩ = some (.int .u64 last) ∧ w.cell? ⟨tb, 3, none⟩ = some vw ∧ ∀ j, w.frozen? ⟨tb, j, none⟩ = false := by
  refine ⟨?_, ?_, ?_, ?_, fun j => frozen_of_row w tb j _ 44 h.str⟩
  all_goals (rw [cell_of_row w tb _ _ 44 (0, 0) h.str]; rfl)

theorem TdAt.ne_a (h : TdAt w tb va vw all til last ws) {g : Nat} (hg : va.ownBlock = some g) : g ≠ tb := by
  obtain ⟨cur, hc⟩ := ownsRow_block h.arow hg
  exact cells_ne hc h.str (by decide)
theorem TdAt.ne_w (h : TdAt w tb va vw all til last ws) {g : Nat} (hg : vw.ownBlock = some g) : g ≠ tb := by
  obtain ⟨cur, hc⟩ := ownsRow_block h.wrow hg
  exact cells_ne hc h.str (by decide)
theorem TdAt.ne_aw (h : TdAt w tb va vw all til last ws) {g k : Nat} (hg : va.ownBlock = some g) (hk : vw.ownBlock = some k) : g ≠ k := by
  obtain ⟨c1, h1⟩ := ownsRow_block h.arow hg
  obtain ⟨c2, h2⟩ := ownsRow_block h.wrow hk
  exact cells_ne h1 h2 (by decide)

/-- The mark, or the last index, is set. -/
theorem TdAt.set1 (h : TdAt w tb va vw all til last ws) (x : Int) : TdAt (w.setCell ⟨tb, 1, none⟩ (.int .u64 x)) tb va vw all x last ws ∧ Tch [tb] w (w.setCell ⟨tb, 1, none⟩ (.int .u64 x)) := by
  have t : Tch [tb] w (w.setCell ⟨tb, 1, none⟩ (.int .u64 x)) := (Tch.refl _ _).setCell (p := ⟨tb, 1, none⟩) (fun _ => by simp) _
  exact ⟨⟨by simpa using heap_setCell_same w tb 1 _ 44 (.int .u64 x) h.str, t.own h.arow (fun g hg hm => h.ne_a hg (List.mem_singleton.1 hm)), t.own h.wrow (fun g hg hm => h.ne_w hg (List.mem_singleton.1 hm))⟩, t⟩
theorem TdAt.set2 (h : TdAt w tb va vw all til last ws) (x : Int) : TdAt (w.setCell ⟨tb, 2, none⟩ (.int .u64 x)) tb va vw all til x ws ∧ Tch [tb] w (w.setCell ⟨tb, 2, none⟩ (.int .u64 x)) := by
  have t : Tch [tb] w (w.setCell ⟨tb, 2, none⟩ (.int .u64 x)) := (Tch.refl _ _).setCell (p := ⟨tb, 2, none⟩) (fun _ => by simp) _
  exact ⟨⟨by simpa using heap_setCell_same w tb 2 _ 44 (.int .u64 x) h.str, t.own h.arow (fun g hg hm => h.ne_a hg (List.mem_singleton.1 hm)), t.own h.wrow (fun g hg hm => h.ne_w hg (List.mem_singleton.1 hm))⟩, t⟩
end

theorem flat_set {α β : Type} (f : α → List β) (sz : Nat) (hsz : ∀ x, (f x).length = sz) (j : Nat) (hj : j < sz) (u : β) : ∀ (l : List α) (i : Nat) (x y : α), l[i]? = some x → f y = (f x).set j u → (l.flatMap f).set (i * sz + j) u = (l.set i y).flatMap f := by
  intro l
  induction l with
  | nil => intro i x y h; simp at h
  | cons a l ih =>
    intro i x y h hy
    cases i with
    | zero =>
      have h : a = x := by simpa using h
      subst h
      rw [List.flatMap_cons, List.set_append_left _ _ (by rw [hsz]; omega)]
      simp [hy]
    | succ i =>
      have h : l[i]? = some x := by simpa using h
      rw [List.flatMap_cons, List.set_append_right _ _ (by rw [hsz, Nat.succ_mul]; omega), hsz]
      have e : (i + 1) * sz + j - sz = i * sz + j := by rw [Nat.succ_mul]; omega
      rw [e, ih i x y h hy]; rfl

section
variable {w : World} {tb : Nat} {vw : Value} {all : List Cn} {til last : Int} {ws : List Int} {g c : Nat}

/-- A cell of an index. -/
theorem TdAt.cell (h : TdAt w tb (.slice (some ⟨g, 0, none⟩) all.length c) vw all til last ws) {i : Nat} {p : Cn} (hp : all[i]? = some p) : w.cell? ⟨g, i * 3, none⟩ = some (.int .u64 p.1) ∧ w.cell? ⟨g, i * 3 + 1, none⟩ = some (.int .i64 p.2.1) ∧ w.cell? ⟨g, i * 3 + 2, none⟩ = some (.int .i64 p.2.2) ∧ ∀ j, w.frozen? ⟨g, j, none⟩ = false := by
  have hi : i < all.length := (List.getElem?_eq_some_iff.1 hp).1
  have hc : ∀ j, j < 3 → w.cell? ⟨g, i * 3 + j, none⟩ = (cCells p)[j]? := fun j hj => by
    rw [h.arow.cellAt (i * 3 + j) (by omega)]
    exact flat_at cCells 3 (fun _ => rfl) all i j p hp hj
  exact ⟨hc 0 (by omega), hc 1 (by omega), hc 2 (by omega), fun j => h.arow.frozenAt j⟩

/-- How often an index began, or was done, is stored. -/
theorem TdAt.put (h : TdAt w tb (.slice (some ⟨g, 0, none⟩) all.length c) vw all til last ws) {i : Nat} {p q : Cn} (hp : all[i]? = some p) {j : Nat} (hj : j < 3) (u : Value) (hq : cCells q = (cCells p).set j u) :
    TdAt (w.setCell ⟨g, i * 3 + j, none⟩ u) tb (.slice (some ⟨g, 0, none⟩) (all.set i q).length c) vw (all.set i q) til last ws ∧ Tch [g] w (w.setCell ⟨g, i * 3 + j, none⟩ u) := by
  have t : Tch [g] w (w.setCell ⟨g, i * 3 + j, none⟩ u) := (Tch.refl _ _).setCell (p := ⟨g, i * 3 + j, none⟩) (fun _ => by simp) _
  have hls : (all.set i q).length = all.length := List.length_set ..
  rw [hls]
  refine ⟨⟨t.obj h.str (fun hm => h.ne_a rfl (List.mem_singleton.1 hm).symm), ?_, t.own h.wrow (fun k hk hm => h.ne_aw rfl hk (List.mem_singleton.1 hm).symm)⟩, t⟩
  have := (h.arow.stored (i * 3 + j) u).1
  rw [flat_set cCells 3 (fun _ => rfl) j hj u all i p q hp hq] at this
  rw [List.length_set]; exact this
end

/-- The place of an index, or -1. -/
def findFrom (x : Int) : List Cn → Nat → Int
  | [], _ => -1
  | p :: l, k => if p.1 = x then k else findFrom x l (k + 1)

theorem findFrom_cases (x : Int) : ∀ (l : List Cn) (k : Nat), (findFrom x l k = -1 ∧ ∀ p ∈ l, p.1 ≠ x) ∨ ∃ (i : Nat) (p : Cn), findFrom x l k = ((k + i : Nat) : Int) ∧ l[i]? = some p ∧ p.1 = x
  | [], k => .inl ⟨rfl, by simp⟩
  | p :: l, k => by
    by_cases h : p.1 = x
    · exact .inr ⟨0, p, by simp [findFrom, h], rfl, h⟩
    · rcases findFrom_cases x l (k + 1) with ⟨h1, h2⟩ | ⟨i, q, h1, h2, h3⟩
      · refine .inl ⟨by simp [findFrom, h, h1], ?_⟩
        intro q hq
        rcases List.mem_cons.1 hq with rfl | hq
        · exact h
        · exact h2 q hq
      · refine .inr ⟨i + 1, q, ?_, by simpa using h2, h3⟩
        simp only [findFrom, if_neg h, h1]
        congr 1; omega

theorem find_step {x : Int} {all : List Cn} {k : Nat} {p : Cn} (hp : all[k]? = some p) : findFrom x (all.drop k) k = if p.1 = x then (k : Int) else findFrom x (all.drop (k + 1)) (k + 1) := by
  have hk : k < all.length := (List.getElem?_eq_some_iff.1 hp).1
  rw [List.drop_eq_getElem_cons hk]
  have : all[k] = p := by rw [List.getElem?_eq_getElem hk] at hp; simpa using hp
  rw [this]; rfl

set_option maxHeartbeats 400000 in
theorem find_any (x : Int) (tb : Nat) (va vw : Value) (all : List Cn) (til last : Int) (ws : List Int) (w : World) (hl : all.length ≤ 100000) (h : TdAt w tb va vw all til last ws) :
    Calls Try.prog 34 #[ptr tb, .int .u64 x] w fun e w' => e = .returned (.int .i64 (findFrom x all 0)) ∧ Tch [] w w' := by
  obtain ⟨c0, c1, c2, c3, fz⟩ := h.facts
  obtain ⟨a, c, rfl⟩ := ownsRow_slice h.arow
  have HT := Lib.hid h
  clear h fz c1 c2 c3
  go_enter Try.func34, Try.ntmps34
  go_wp2_with fail
  go_loopg [12] all.length (fun n s12 wr => ∃ k : Nat, k ≤ all.length ∧ n = all.length - k ∧ s12 = .int .i64 k ∧ Hid (findFrom x all 0 = findFrom x (all.drop k) k) ∧ Hid (Tch [] w wr))
  case atStart => exact ⟨0, Nat.zero_le _, rfl, rfl, Lib.hid rfl, Lib.hid (Tch.refl _ _)⟩
  case round =>
    obtain ⟨k, hk, rfl, rfl, HF, HR⟩ := hrel
    by_cases hlt : k < all.length
    · obtain ⟨g, c', e, -, -⟩ := ownsRow_value HT.out.arow (by omega)
      simp only [Value.slice.injEq, true_and] at e
      obtain ⟨rfl, rfl⟩ := e
      obtain ⟨p, hp⟩ : ∃ p, all[k]? = some p := ⟨_, List.getElem?_eq_getElem hlt⟩
      obtain ⟨k0, k1, k2, -⟩ := (HT.out.tch HR.out (by simp)).cell hp
      have hlt3 : (k : Int) < all.length := by omega
      have hf := HF.out.trans (find_step (x := x) hp)
      obtain ⟨i, b, d⟩ := p
      have k0 : wr.cell? ⟨g, k * 3, none⟩ = some (.int .u64 i) := k0
      have hgl := own_lt (HR.out.own HT.out.arow (by simp)) (k := g) rfl
      clear hp hlt
      by_cases hx : i = x
      · have t0 : (i == x) = true := by simpa using hx
        rw [if_pos hx] at hf
        have HF2 := Lib.hid hf
        clear hf hx
        go_wp2_with fail
        go_ret
        exact ⟨by rw [HF2.out]; rfl, HR.out.trans ((Tch.refl _ _).alloc _)⟩
      · have t0 : (i == x) = false := by simpa using hx
        rw [if_neg hx] at hf
        have HF2 := Lib.hid hf
        clear hf hx
        go_wp2_with fail
        go_roundg (all.length - (k + 1))
        case rel => exact ⟨k + 1, by omega, rfl, by go_num, HF2, Lib.hid (HR.out.trans ((Tch.refl _ _).alloc _))⟩
        case measure => omega
    · obtain rfl : k = all.length := by omega
      have hf := HF.out
      rw [List.drop_length] at hf
      have HF2 := Lib.hid hf
      clear hf hlt hk
      go_wp2_with fail
      go_ret
      exact ⟨by rw [HF2.out]; rfl, HR.out⟩

end Go.Proofs.Ytaheafmdkbobcaa
