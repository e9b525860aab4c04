/- One index begins or is done: processOne as a step of the state. -/
import Derived.Test.YtaheafmdkbobcaaMk
namespace Go.Proofs.Ytaheafmdkbobcaa
open Go.RowKit

abbrev MAX : Int := 18446744073709551615

/-- One index begins, or is done. -/
def next1 (s : MSt) (x : Int) (dn : Bool) : MSt :=
  if dn then { s with pl := (drainP s.pl.length (putC s.pl x ((cnt? s.pl x).getD 0 - 1)) s.til).1, til := (drainP s.pl.length (putC s.pl x ((cnt? s.pl x).getD 0 - 1)) s.til).2 }
  else { s with pl := putC s.pl x ((cnt? s.pl x).getD 0 + 1) }

/-- It may. -/
def ok1 (s : MSt) (x : Int) (dn : Bool) : Prop := (dn = true → ∃ c, cnt? s.pl x = some c ∧ 1 ≤ c) ∧ (dn = false → s.til < x ∧ x < MAX)

structure Good (s : MSt) (N : Nat) : Prop where
  t0 : 0 ≤ s.til
  t1 : s.til < MAX
  keys : ∀ p ∈ s.pl, s.til < p.1 ∧ p.1 < MAX
  cnts : ∀ p ∈ s.pl, 0 ≤ p.2 ∧ p.2 ≤ N
  least : LeastPos s.pl
  nd : (s.pl.map Prod.fst).Nodup
  wnd : (s.ws.map Prod.fst).Nodup
  len : s.pl.length ≤ N
  wlen : s.ws.length ≤ N

theorem cnt_none {pl : List (Int × Int)} {x : Int} : cnt? pl x = none ↔ ∀ p ∈ pl, p.1 ≠ x := by
  simp [cnt?, List.find?_eq_none]

theorem mem_putC {pl : List (Int × Int)} {x c : Int} {p : Int × Int} (hp : p ∈ putC pl x c) : p = (x, c) ∨ p ∈ pl := by
  unfold putC at hp
  split at hp
  · obtain ⟨q, hq, e⟩ := List.mem_map.1 hp
    split at e
    · exact .inl e.symm
    · rw [← e]; exact .inr hq
  · rcases List.mem_append.1 hp with h | h
    · exact .inr h
    · exact .inl (List.mem_singleton.1 h)
theorem putC_mem (pl : List (Int × Int)) (x c : Int) : (x, c) ∈ putC pl x c := by
  unfold putC
  split
  · rename_i h
    cases hc : cnt? pl x with
    | none => rw [hc] at h; simp at h
    | some d =>
      have : ∃ p ∈ pl, p.1 = x := by
        cases hf : pl.find? (fun p => p.1 == x) with
        | none => simp [cnt?, hf] at hc
        | some p =>
          have h1 := List.find?_some hf
          exact ⟨p, List.mem_of_find?_eq_some hf, by simpa using h1⟩
      obtain ⟨p, hp, e⟩ := this
      exact List.mem_map.2 ⟨p, hp, by simp [e]⟩
  · simp
theorem mem_putC_of {pl : List (Int × Int)} {x c : Int} {p : Int × Int} (hp : p ∈ pl) (hne : p.1 ≠ x) : p ∈ putC pl x c := by
  unfold putC
  split
  · exact List.mem_map.2 ⟨p, hp, by simp [hne]⟩
  · exact List.mem_append_left _ hp
theorem putC_nodup {pl : List (Int × Int)} {x c : Int} (hn : (pl.map Prod.fst).Nodup) : ((putC pl x c).map Prod.fst).Nodup := by
  cases hc : cnt? pl x with
  | some d => rw [putC_keys hc]; exact hn
  | none =>
    have : (putC pl x c).map Prod.fst = pl.map Prod.fst ++ [x] := by unfold putC; rw [hc]; simp
    rw [this]
    refine List.nodup_append.2 ⟨hn, by simp, ?_⟩
    intro a ha b hb
    obtain ⟨p, hp, rfl⟩ := List.mem_map.1 ha
    rw [List.mem_singleton.1 hb]
    exact cnt_none.1 hc p hp
theorem putC_len {pl : List (Int × Int)} {x c : Int} : (putC pl x c).length ≤ pl.length + 1 := by
  unfold putC
  split <;> simp

theorem least_begin {s : MSt} {N : Nat} (G : Good s N) {x : Int} : LeastPos (putC s.pl x ((cnt? s.pl x).getD 0 + 1)) := by
  intro p hp hl
  rcases mem_putC hp with rfl | hp'
  · simp only
    cases hc : cnt? s.pl x with
    | none => simp
    | some d => have := (G.cnts _ ((cnt_mem G.nd).1 hc)).1; simp only [Option.getD_some]; simp only at this; omega
  · by_cases e : p.1 = x
    · cases hc : cnt? s.pl x with
      | none => exact absurd e (cnt_none.1 hc p hp')
      | some d =>
        have h1 : p.2 = d + 1 := by
          rw [hc] at hp
          have h2 := putC_mem s.pl x (d + 1)
          have := nodup_at (putC_nodup G.nd) hp h2 e
          rw [this]
        have := (G.cnts _ ((cnt_mem G.nd).1 hc)).1
        simp only at this; omega
    · refine G.least p hp' (fun q hq => ?_)
      by_cases eq : q.1 = x
      · have := hl _ (putC_mem s.pl x ((cnt? s.pl x).getD 0 + 1)); simp only at this; omega
      · exact hl q (mem_putC_of hq eq)

theorem drain_sub : ∀ (n : Nat) (pl : List (Int × Int)) (u : Int), (drainP n pl u).1.Sublist pl
  | 0, pl, u => List.Sublist.refl _
  | n + 1, pl, u => by
    unfold drainP
    split
    · exact List.Sublist.refl _
    · split
      · exact List.Sublist.refl _
      · exact (drain_sub n _ _).trans List.filter_sublist

theorem drain_law : ∀ (n : Nat) (pl : List (Int × Int)) (u : Int), pl.length ≤ n → (pl.map Prod.fst).Nodup → (∀ p ∈ pl, u < p.1 ∧ p.1 < MAX) → u < MAX →
    u ≤ (drainP n pl u).2 ∧ (drainP n pl u).2 < MAX ∧ (∀ p ∈ (drainP n pl u).1, (drainP n pl u).2 < p.1) ∧ LeastPos (drainP n pl u).1
  | 0, pl, u, h, _, hk, hu => by
    have : pl = [] := List.eq_nil_of_length_eq_zero (by omega)
    subst this
    exact ⟨Int.le_refl _, hu, by simp [drainP], by intro p hp; simp [drainP] at hp⟩
  | n + 1, pl, u, h, hn, hk, hu => by
    unfold drainP
    cases hm : minKey pl with
    | none =>
      have : pl = [] := by
        cases pl with
        | nil => rfl
        | cons a l => obtain ⟨p, hp⟩ := minKey_some (pl := a :: l) (by simp); rw [hm] at hp; simp at hp
      subst this
      exact ⟨Int.le_refl _, hu, by simp, by intro p hp; simp at hp⟩
    | some p =>
      obtain ⟨h1, h2⟩ := minKey_spec hm
      by_cases hc : 0 < p.2
      · simp only [hc, if_true]
        refine ⟨Int.le_refl _, hu, fun q hq => (hk q hq).1, fun q hq hl => ?_⟩
        have := hl p h1
        have := h2 q hq
        have : q = p := nodup_at hn hq h1 (by omega)
        rw [this]; exact hc
      · simp only [hc, if_false]
        have hlen : (pl.filter (fun q => q.1 != p.1)).length < pl.length := by
          rw [← Nat.not_le]
          intro hle
          have := (List.length_filter_eq_length_iff (p := fun q : Int × Int => q.1 != p.1) (l := pl)).1 (by have := List.length_filter_le (fun q : Int × Int => q.1 != p.1) pl; omega) p h1
          simp at this
        obtain ⟨r1, r2, r3, r4⟩ := drain_law n (pl.filter (fun q => q.1 != p.1)) p.1 (by omega) ((List.filter_sublist.map _).nodup hn) (by
          intro q hq
          obtain ⟨q1, q2⟩ := List.mem_filter.1 hq
          have h3 := h2 q q1
          have h4 : q.1 ≠ p.1 := by simpa using q2
          exact ⟨by omega, (hk q q1).2⟩) (hk p h1).2
        exact ⟨by have := (hk p h1).1; omega, r2, r3, r4⟩

theorem Good.next {s : MSt} {N : Nat} (G : Good s N) {x : Int} {dn : Bool} (h : ok1 s x dn) : Good (next1 s x dn) (N + 1) ∧ s.til ≤ (next1 s x dn).til := by
  cases dn with
  | false =>
    obtain ⟨hx1, hx2⟩ := h.2 rfl
    refine ⟨⟨G.t0, G.t1, ?_, ?_, least_begin G, putC_nodup G.nd, G.wnd, ?_, by have := G.wlen; simp [next1]; omega⟩, Int.le_refl _⟩
    · intro p hp
      rcases mem_putC hp with rfl | hp
      · exact ⟨hx1, hx2⟩
      · exact G.keys p hp
    · intro p hp
      rcases mem_putC hp with rfl | hp
      · cases hc : cnt? s.pl x with
        | none => simp; omega
        | some d => have := G.cnts _ ((cnt_mem G.nd).1 hc); simp only at this; simp only [Option.getD_some]; omega
      · have := G.cnts p hp; omega
    · have := G.len
      have := putC_len (pl := s.pl) (x := x) (c := (cnt? s.pl x).getD 0 + 1)
      simp only [next1]; simp; omega
  | true =>
    obtain ⟨c, hc, hc1⟩ := h.1 rfl
    have hkeys := putC_keys (c' := c - 1) hc
    have hall : ∀ p ∈ putC s.pl x (c - 1), s.til < p.1 ∧ p.1 < MAX := by
      intro p hpm
      have : p.1 ∈ (putC s.pl x (c - 1)).map Prod.fst := List.mem_map.2 ⟨p, hpm, rfl⟩
      rw [hkeys] at this
      obtain ⟨q, hq, e⟩ := List.mem_map.1 this
      rw [← e]; exact G.keys q hq
    have hlen : (putC s.pl x (c - 1)).length = s.pl.length := by have := congrArg List.length hkeys; simpa using this
    obtain ⟨r1, r2, r3, r4⟩ := drain_law s.pl.length (putC s.pl x (c - 1)) s.til (by omega) (by rw [hkeys]; exact G.nd) hall G.t1
    have hsub := drain_sub s.pl.length (putC s.pl x (c - 1)) s.til
    have hcg : (cnt? s.pl x).getD 0 = c := by rw [hc]; rfl
    have e : next1 s x true = { s with pl := (drainP s.pl.length (putC s.pl x (c - 1)) s.til).1, til := (drainP s.pl.length (putC s.pl x (c - 1)) s.til).2 } := by simp [next1, hcg]
    rw [e]
    refine ⟨⟨by have := G.t0; simp only; omega, r2, fun p hp => ⟨r3 p hp, (hall p (hsub.subset hp)).2⟩, ?_, r4, (hsub.map _).nodup (by rw [hkeys]; exact G.nd), G.wnd, ?_, by have := G.wlen; simp only; omega⟩, r1⟩
    · intro p hp
      rcases mem_putC (hsub.subset hp) with rfl | hp'
      · have := G.cnts _ ((cnt_mem G.nd).1 hc); simp only at this ⊢; omega
      · have := G.cnts p hp'; omega
    · have := hsub.length_le
      have := G.len
      simp only; omega

theorem nodup_len : ∀ {l l' : List Int}, l.Nodup → (∀ x ∈ l, x ∈ l') → l.length ≤ l'.length
  | [], _, _, _ => by simp
  | a :: t, l', hn, hs => by
    obtain ⟨h1, h2⟩ := List.nodup_cons.1 hn
    have ha := hs a (by simp)
    have := nodup_len (l := t) (l' := l'.erase a) h2 (fun x hx => (List.mem_erase_of_ne (fun e : x = a => h1 (e ▸ hx))).2 (hs x (by simp [hx])))
    rw [List.length_erase_of_mem ha] at this
    have := List.length_pos_of_mem ha
    simp; omega

theorem WtAt.len {w : World} {qb : Nat} {ws : List (Nat × Int)} {f : Int → Bool} {es : List (Int × Value)} (h : WtAt w qb ws f es) : es.length ≤ ws.length := by
  have := nodup_len (l := es.map Prod.fst) (l' := ws.map Prod.snd) h.map.nodup (fun x hx => by
    obtain ⟨_, b, hb⟩ := (h.key x).1 hx
    exact List.mem_map.2 ⟨(b, x), hb, rfl⟩)
  simpa using this

set_option maxHeartbeats 400000 in
theorem one_any (x : Int) (dn : Bool) (L : Lay) (x3 v : Value) (hs : List Int) (es : List (Int × Value)) (s : MSt) (w : World) (G : Good s 100000) (hok : ok1 s x dn)
    (h : Inr w L x3 v s.til s.last hs s.pl s.ws (told s) es) (hp : hs.Perm (s.pl.map Prod.fst)) (hh : IsHp hs) :
    Calls Try.prog 36 #[.int .u64 x, .bool dn, ptr L.pbx, ptr L.ib, ptr L.wbx, ptr L.qbx] w fun e w' => e = .returned (.tuple #[]) ∧
      ∃ v' hs' es', Inr w' L x3 v' (next1 s x dn).til s.last hs' (next1 s x dn).pl s.ws (told (next1 s x dn)) es' ∧ hs'.Perm ((next1 s x dn).pl.map Prod.fst) ∧ IsHp hs' ∧ (∀ k ∈ rows es', k ∈ rows es) ∧
        (v'.ownBlock = v.ownBlock ∨ ∃ k, v'.ownBlock = some k ∧ w.heap.size ≤ k) ∧ Tch (L.wb :: L.pb :: L.qb :: L.ib :: (v.ownBlock.toList ++ s.ws.map Prod.fst)) w w' := by
  have hlen : hs.length = s.pl.length := by rw [hp.length_eq, List.length_map]
  have hsl : es.length ≤ s.ws.length := h.wt.len
  have g1 := G.len
  have g2 := G.wlen
  cases dn with
  | false =>
    obtain ⟨hx1, hx2⟩ := hok.2 rfl
    have hlp := least_begin G (x := x)
    cases hc : cnt? s.pl x with
    | none =>
      rw [hc] at hlp
      have e : next1 s x false = { s with pl := putC s.pl x 1 } := by simp [next1, hc]
      rw [e]
      refine (one_begin x L x3 v s.til s.last hs s.pl s.ws (told s) es w h hp hh hc (by simpa using hlp) G.t0 hx1 hx2 (by omega) (by omega)).mono ?_
      rintro e' w' ⟨he, v', hs', r1, r2, r3, r4, r5⟩
      refine ⟨he, v', hs', es, r1, r2, r3, fun _ hk => hk, r5, r4.mono ?_⟩
      intro k _ hk
      simp only [List.mem_cons, List.mem_append] at hk ⊢
      rcases hk with rfl | rfl | hk
      · simp
      · simp
      · simp [hk]
    | some d =>
      rw [hc] at hlp
      have hd := G.cnts _ ((cnt_mem G.nd).1 hc)
      simp only at hd
      have e : next1 s x false = { s with pl := putC s.pl x (d + 1) } := by simp [next1, hc]
      rw [e]
      refine (one_again x d L x3 v s.til s.last hs s.pl s.ws (told s) es w h hp hh hc hd.1 (by omega) (by simpa using hlp) G.t0 hx1 hx2 (by omega) (by omega)).mono ?_
      rintro e' w' ⟨he, r1, r2, r4⟩
      refine ⟨he, v, hs, es, r1, r2, hh, fun _ hk => hk, .inl rfl, r4.mono ?_⟩
      intro k _ hk
      have := List.mem_singleton.1 hk
      simp [this]
  | true =>
    obtain ⟨c, hc, hc1⟩ := hok.1 rfl
    have hd := G.cnts _ ((cnt_mem G.nd).1 hc)
    have hk := G.keys _ ((cnt_mem G.nd).1 hc)
    simp only at hd hk
    have e : next1 s x true = { s with pl := (drainP s.pl.length (putC s.pl x (c - 1)) s.til).1, til := (drainP s.pl.length (putC s.pl x (c - 1)) s.til).2 } := by simp [next1, hc]
    rw [e]
    refine (one_done x c L x3 v s.til s.last hs s.pl s.ws es w h hp hh hc hc1 (by omega) G.t0 hk.1 hk.2 G.keys (by omega) (by omega) (by omega) G.wnd).mono ?_
    rintro e' w' ⟨he, v', hs', r1, r2, r3, r4, r5⟩
    refine ⟨he, v', hs', _, r1, r2, r3, ?_, .inl r4, r5⟩
    intro k hk
    simp only [rows, List.mem_filterMap] at hk ⊢
    obtain ⟨p, hp, he⟩ := hk
    exact ⟨p, (List.mem_filter.1 hp).1, he⟩

end Go.Proofs.Ytaheafmdkbobcaa
