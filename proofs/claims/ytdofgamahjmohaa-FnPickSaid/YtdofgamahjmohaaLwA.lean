/- impl.made, of levels in order. -/
import Derived.Test.YtdofgamahjmohaaLvZ
import Derived.Test.YtdofgamahjmohaaLvQ
import Derived.Test.YtdofgamahjmohaaLvV
namespace Go.Proofs.Ytdofgamahjmohaa
open Go.RowKit
set_option maxRecDepth 100000

theorem adj_lt {a b : Tb} (h1 : kcmp a.k1 a.k2 ≤ 0) (h2 : cmpI a.k2.key b.k1.key < 0) : kcmp a.k1 b.k1 < 0 := by
  have h3 : kcmp a.k2 b.k1 < 0 := by unfold kcmp; rw [if_neg (by omega)]; exact h2
  have h4 := kcmp_le h1 (Int.le_of_lt h3)
  by_cases e : kcmp a.k1 b.k1 = 0
  · have h5 := kcmp_anti a.k1 b.k1
    have h6 := kcmp_le (a := b.k1) (b := a.k1) (c := a.k2) (by omega) h1
    have h7 := kcmp_anti a.k2 b.k1
    omega
  · omega

theorem ord_all {z : Bool} {ts : List Tb} (h : ∀ i, i < ts.length → OrdAt z ts i) : InOrd z ts := by
  intro i j hij
  obtain ⟨d, rfl⟩ : ∃ d, j = i + 1 + d := ⟨j - i - 1, by omega⟩
  clear hij
  induction d with
  | zero =>
    intro hj
    have h1 := (h (i + 1) hj).2 (by omega)
    have h0 := (h i (by omega)).1
    cases z with
    | true => simpa using h1
    | false =>
      simp only [Bool.false_eq_true, if_false, Nat.add_sub_cancel] at h1 ⊢
      unfold isR at h0
      simp only [Bool.and_eq_true, decide_eq_true_eq] at h0
      exact adj_lt h0.2 h1
  | succ d ih =>
    intro hj
    have hi := ih (by omega)
    have h1 := (h (i + 1 + d + 1) hj).2 (by omega)
    have h0 := (h (i + 1 + d) (by omega)).1
    cases z with
    | true =>
      simp only [if_true, Nat.add_sub_cancel] at h1 hi ⊢
      exact Int.lt_trans hi h1
    | false =>
      simp only [Bool.false_eq_true, if_false, Nat.add_sub_cancel] at h1 hi ⊢
      unfold isR at h0
      simp only [Bool.and_eq_true, decide_eq_true_eq] at h0
      exact kcmp_lt hi (adj_lt h0.2 h1)

theorem getD_mem {α : Type} {l : List α} {d x : α} (h : x ∈ l) : ∃ i, i < l.length ∧ l.getD i d = x := by
  obtain ⟨i, hi, rfl⟩ := List.mem_iff_getElem.1 h
  exact ⟨i, hi, by simp [List.getD, List.getElem?_eq_getElem hi]⟩

theorem LvAt.good {w : World} {LL : List (List Tb)} {la : Option Addr} {c : Nat} (h : LvAt w LL la c) (hsh : ∀ ts ∈ LL, ∀ t ∈ ts, t.short) : ∀ ts ∈ LL, ∀ t ∈ ts, t.good := by
  intro ts hts t ht
  obtain ⟨i, hi, rfl⟩ := getD_mem (d := []) hts
  cases la with
  | none => have := (h.nil rfl).2; rw [this] at hi; simp at hi
  | some a =>
    obtain ⟨-, ta, tc, -, hT⟩ := h.at' a rfl i hi
    obtain ⟨j, hj, rfl⟩ := getD_mem (d := default) ht
    cases ta with
    | none => have := (hT.nil rfl).2; rw [this] at hj; simp at hj
    | some b =>
      obtain ⟨a1, c1, a2, c2, hc⟩ := hT.at' b rfl j hj
      exact ⟨hT.ok _ ht, hsh _ hts _ ht, hc.by1.u8, hc.by2.u8⟩

theorem made_valid (LL : List (List Tb)) (la : Option Addr) (c : Nat) (o : Op) (w : World) (h : LvAt w LL la c) (hsh : ∀ ts ∈ LL, ∀ t ∈ ts, t.short) (hv : Valid LL o) :
    Calls Try.prog 31 #[.slice la LL.length c, opV o] w fun e w' => ∃ gL, e = .returned (ptr gL) ∧ Made w' gL (opA o.lv o.lt o.tt o.zt o.bl o.bt o.mt o.di) LL.length LL ∧ Tch [] w w' := by
  have hg := h.good hsh
  have hwh : ∀ ts ∈ LL, ∀ t ∈ ts, t.whole := fun ts hts t ht => by
    obtain ⟨i, hi, rfl⟩ := getD_mem (d := []) hts
    obtain ⟨j, hj, rfl⟩ := getD_mem (d := default) ht
    have h0 := (hv.ord.ord i hi j hj).1
    unfold isR isB at h0
    simp only [Bool.and_eq_true] at h0
    exact ⟨h0.1.1.1.1, h0.1.2.1.1⟩
  have hm := made_any LL la c o.lv o.lt o.tt o.zt o.bl o.bt o.mt o.di w h hv.op.n7 hv.few hsh hwh (fun w' v w'' => ∃ gL, v = ptr gL ∧ Made w'' gL (opA o.lv o.lt o.tt o.zt o.bl o.bt o.mt o.di) LL.length LL ∧ Tch [] w' w'') (fun qs a n c' w' t hq hn hp => by
    subst hn
    have hx := new_any qs a LL.length c' o.lt o.tt o.zt o.bl o.bt o.mt o.di w' LL hq rfl hv.op.n7 hp hv.few (fun ts hts t ht => ⟨hg ts hts t ht, hv.fine ts hts t ht⟩) (fun m hm => ord_all (hv.ord.ord m hm))
    rw [← hv.op.lv] at hx
    refine hx.mono ?_
    rintro e w'' ⟨gL, rfl, h1, h2⟩
    exact ⟨_, rfl, gL, rfl, h1, h2⟩)
  refine hm.mono ?_
  rintro e w'' ⟨w', v, t, rfl, gL, rfl, h1, h2⟩
  exact ⟨gL, rfl, h1, t.trans h2⟩

end Go.Proofs.Ytdofgamahjmohaa
