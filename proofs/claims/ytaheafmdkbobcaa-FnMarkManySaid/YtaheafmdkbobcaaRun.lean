/- Steps over a water mark: what is told behind each, and where the run stands between two. -/
import Derived.Test.YtaheafmdkbobcaaMethB
namespace Go.Proofs.Ytaheafmdkbobcaa
open Go.RowKit

/-- A step: its kind, its index, its indices. -/
structure Stp where
  kind : Int
  idx : Int
  many : List Int
instance : Inhabited Stp := ⟨⟨0, 0, []⟩⟩

/-- The water mark behind a step. -/
def stpM (s : MSt) (p : Stp) : MSt :=
  if p.kind = 0 then next1 { s with last := p.idx } p.idx false
  else if p.kind = 1 then nextMany { s with last := p.many.getD (p.many.length - 1) 0 } p.many false
  else if p.kind = 2 then next1 s p.idx true
  else if p.kind = 3 then nextMany s p.many true
  else if p.kind = 5 then { s with til := p.idx }
  else s
/-- All that has waited. -/
def stpA (al : List Int) (p : Stp) : List Int := if p.kind = 4 then al ++ [p.idx] else al

/-- The step may be taken. -/
def okStp (s : MSt) (al : List Int) (p : Stp) : Prop :=
  (p.kind = 0 ∧ s.til < p.idx ∧ p.idx < MAX) ∨ (p.kind = 1 ∧ 0 < p.many.length ∧ okMany s p.many false) ∨ (p.kind = 2 ∧ ∃ c, cnt? s.pl p.idx = some c ∧ 1 ≤ c) ∨
  (p.kind = 3 ∧ 0 < p.many.length ∧ okMany s p.many true) ∨ p.kind = 4 ∨ (p.kind = 5 ∧ s.pl = [] ∧ (∀ i ∈ al, i ≤ s.til) ∧ s.til ≤ p.idx ∧ p.idx < MAX)

/-- What is told. -/
structure TR where
  til : Int
  last : Int
  pend : Int
  wait : Int
  done : List Bool
instance : Inhabited TR := ⟨⟨0, 0, 0, 0, []⟩⟩
def tell (q : MSt × List Int) : TR := ⟨q.1.til, q.1.last, q.1.pl.length, (q.2.filter (fun i => !told q.1 i)).length, q.2.map (told q.1)⟩

def stp (q : MSt × List Int) (p : Stp) : MSt × List Int := (stpM q.1 p, stpA q.2 p)
def after (q : MSt × List Int) (L : List Stp) : MSt × List Int := L.foldl stp q
/-- The state behind the first k steps. -/
def St (L : List Stp) (k : Nat) : MSt × List Int := after (new0, []) (L.take k)
def okRun (L : List Stp) : Prop := ∀ k, k < L.length → okStp (St L k).1 (St L k).2 (L.getD k default)
def wt (L : List Stp) : Nat := (L.map (fun p => 1 + p.many.length)).sum

theorem take_getD {α : Type} (l : List α) (d : α) {k : Nat} (hk : k < l.length) : l.take (k + 1) = l.take k ++ [l.getD k d] := by
  rw [List.take_succ_eq_append_getElem hk]; simp [List.getD, List.getElem?_eq_getElem hk]

theorem St_succ {L : List Stp} {k : Nat} (hk : k < L.length) : St L (k + 1) = stp (St L k) (L.getD k default) := by
  unfold St after
  rw [take_getD L default hk, List.foldl_append]; rfl

theorem wt_succ {L : List Stp} {k : Nat} (hk : k < L.length) : wt (L.take (k + 1)) = wt (L.take k) + (1 + (L.getD k default).many.length) := by
  unfold wt
  rw [take_getD L default hk, List.map_append, List.sum_append]; simp

theorem wt_take (L : List Stp) (k : Nat) : wt (L.take k) ≤ wt L := by
  unfold wt
  conv => rhs; rw [← List.take_append_drop k L, List.map_append, List.sum_append]
  omega

theorem next1_ws (s : MSt) (v : List (Nat × Int)) (x : Int) (dn : Bool) : next1 { s with ws := v } x dn = { next1 s x dn with ws := v } := by
  unfold next1; split <;> rfl
theorem nextMany_ws (l : List Int) (dn : Bool) : ∀ (s : MSt) (v : List (Nat × Int)), nextMany { s with ws := v } l dn = { nextMany s l dn with ws := v } := by
  induction l with
  | nil => intro s v; rfl
  | cons x l ih => intro s v; show nextMany (next1 { s with ws := v } x dn) l dn = _; rw [next1_ws, ih]; rfl
theorem okMany_ws (l : List Int) (dn : Bool) : ∀ (s : MSt) (v : List (Nat × Int)), okMany s l dn → okMany { s with ws := v } l dn := by
  induction l with
  | nil => intro s v _; trivial
  | cons x l ih => intro s v h; refine ⟨h.1, ?_⟩; rw [next1_ws]; exact ih _ _ h.2
theorem stpM_ws (s : MSt) (p : Stp) (v : List (Nat × Int)) : stpM { s with ws := v } p = { stpM s p with ws := v } := by
  unfold stpM
  split
  · exact next1_ws { s with last := p.idx } v p.idx false
  split
  · exact nextMany_ws _ _ { s with last := p.many.getD (p.many.length - 1) 0 } v
  split
  · exact next1_ws s v p.idx true
  split
  · exact nextMany_ws _ _ s v
  split <;> rfl

theorem Good.ws {s : MSt} {N : Nat} (G : Good s N) {v : List (Nat × Int)} (hn : (v.map Prod.fst).Nodup) (hl : v.length ≤ N) : Good { s with ws := v } N :=
  ⟨G.t0, G.t1, G.keys, G.cnts, G.least, G.nd, hn, G.len, hl⟩

theorem Good.last {s : MSt} {N : Nat} (G : Good s N) (x : Int) : Good { s with last := x } N := ⟨G.t0, G.t1, G.keys, G.cnts, G.least, G.nd, G.wnd, G.len, G.wlen⟩

theorem okMany_last : ∀ (l : List Int) (s : MSt) (y : Int) (dn : Bool), okMany s l dn → okMany { s with last := y } l dn := by
  intro l
  induction l with
  | nil => intro s y dn _; trivial
  | cons z l ih =>
    intro s y dn ho
    refine ⟨ho.1, ?_⟩
    have : next1 { s with last := y } z dn = { next1 s z dn with last := y } := by unfold next1; split <;> rfl
    rw [this]; exact ih _ y dn ho.2

theorem many_good {dn : Bool} : ∀ {zs : List Int} {s : MSt} {N : Nat}, Good s N → okMany s zs dn → Good (nextMany s zs dn) (N + zs.length) ∧ s.til ≤ (nextMany s zs dn).til := by
  intro zs
  induction zs with
  | nil => intro s N G _; exact ⟨G, Int.le_refl _⟩
  | cons z zs ih =>
    intro s N G h
    obtain ⟨g1, g2⟩ := G.next h.1
    obtain ⟨g3, g4⟩ := ih g1 h.2
    refine ⟨?_, Int.le_trans g2 g4⟩
    have e : N + (z :: zs).length = N + 1 + zs.length := by simp; omega
    rw [e]; exact g3

theorem Good.stp {s : MSt} {al : List Int} {N : Nat} {p : Stp} (G : Good s N) (h : okStp s al p) : Good (stpM s p) (N + (1 + p.many.length)) ∧ s.til ≤ (stpM s p).til := by
  unfold stpM
  rcases h with ⟨hk, h1, h2⟩ | ⟨hk, h1, h2⟩ | ⟨hk, c, h1, h2⟩ | ⟨hk, h1, h2⟩ | hk | ⟨hk, h1, h2, h3, h4⟩
  · rw [if_pos hk]
    obtain ⟨a, b⟩ := (G.last p.idx).next (x := p.idx) (dn := false) ⟨by simp, fun _ => ⟨h1, h2⟩⟩
    exact ⟨a.mono (by omega), b⟩
  · rw [if_neg (by omega), if_pos hk]
    obtain ⟨a, b⟩ := many_good (G.last (p.many.getD (p.many.length - 1) 0)) (okMany_last _ _ _ _ h2)
    exact ⟨a.mono (by omega), b⟩
  · rw [if_neg (by omega), if_neg (by omega), if_pos hk]
    obtain ⟨a, b⟩ := G.next (x := p.idx) (dn := true) ⟨fun _ => ⟨c, h1, h2⟩, by simp⟩
    exact ⟨a.mono (by omega), b⟩
  · rw [if_neg (by omega), if_neg (by omega), if_neg (by omega), if_pos hk]
    obtain ⟨a, b⟩ := many_good G h2
    exact ⟨a.mono (by omega), b⟩
  · rw [if_neg (by omega), if_neg (by omega), if_neg (by omega), if_neg (by omega), if_neg (by omega)]
    exact ⟨G.mono (by omega), Int.le_refl _⟩
  · rw [if_neg (by omega), if_neg (by omega), if_neg (by omega), if_neg (by omega), if_pos hk]
    refine ⟨⟨by have := G.t0; show 0 ≤ p.idx; omega, h4, by rw [h1]; simp, by rw [h1]; simp, by rw [h1]; intro p hp; simp at hp, by rw [h1]; simp, G.wnd, by rw [h1]; simp, by have := G.wlen; show s.ws.length ≤ _; omega⟩, h3⟩

theorem stpM_nows {s : MSt} (p : Stp) (h : s.ws = []) : (stpM s p).ws = [] := by
  unfold stpM
  split
  · rw [(next1_last _ _ _).2]; exact h
  split
  · rw [(nextMany_last _ _ _).2]; exact h
  split
  · rw [(next1_last _ _ _).2]; exact h
  split
  · rw [(nextMany_last _ _ _).2]; exact h
  split <;> exact h

theorem St_good {L : List Stp} (h : okRun L) : ∀ k, k ≤ L.length → Good (St L k).1 (wt (L.take k)) ∧ (St L k).1.ws = [] ∧ (St L k).2.length ≤ k := by
  intro k
  induction k with
  | zero =>
    intro _
    refine ⟨⟨by simp [St, after, new0], by simp [St, after, new0, MAX], by simp [St, after, new0], by simp [St, after, new0], ?_, by simp [St, after, new0], by simp [St, after, new0], by simp [St, after, new0], by simp [St, after, new0]⟩, by simp [St, after, new0], by simp [St, after]⟩
    intro p hp; simp [St, after, new0] at hp
  | succ k ih =>
    intro hk
    obtain ⟨g1, g2, g3⟩ := ih (by omega)
    rw [St_succ (by omega), wt_succ (by omega)]
    refine ⟨(g1.stp (h k (by omega))).1, stpM_nows _ g2, ?_⟩
    show (stpA _ _).length ≤ _
    unfold stpA
    split
    · rw [List.length_append]; simp; omega
    · omega

theorem St_til {L : List Stp} (h : okRun L) {k : Nat} (hk : k < L.length) : (St L k).1.til ≤ (St L (k + 1)).1.til := by
  rw [St_succ hk]
  exact ((St_good h k (by omega)).1.stp (h k hk)).2

end Go.Proofs.Ytaheafmdkbobcaa
