/- The run over a water mark in memory. -/
import Derived.Test.YtaheafmdkbobcaaRun
namespace Go.Proofs.Ytaheafmdkbobcaa
open Go.RowKit

def outCells (p : TR × Value) : List Value := [.int .u64 p.1.til, .int .u64 p.1.last, .int .i64 p.1.pend, .int .i64 p.1.wait, p.2]

structure RunAt (w0 w : World) (B : Bk) (fp : List Nat) (s : MSt) (al ws : List (Nat × Int)) (wv ov : Value) (outs : List (TR × Value)) : Prop where
  t : Tch [] w0 w
  mka : MkAt w B fp { s with ws := ws }
  fn : ∀ k ∈ fp, w0.heap.size ≤ k ∧ k < w.heap.size
  wrow : w.ownsRow 0 51 1 wv al.length (al.map fun p => ptr p.1)
  wn : ∀ k, wv.ownBlock = some k → w0.heap.size ≤ k ∧ k ∉ fp
  orow : w.ownsRow 0 35 5 ov outs.length (outs.flatMap outCells)
  on : ∀ k, ov.ownBlock = some k → w0.heap.size ≤ k ∧ k ∉ fp
  dn : ∀ p ∈ outs, w.ownsRow 0 4 1 p.2 p.1.done.length (p.1.done.map Value.bool) ∧ ∀ k, p.2.ownBlock = some k → w0.heap.size ≤ k ∧ k ∉ fp
  imm : ∀ p ∈ al, p ∈ ws ∨ (p.1 ∉ fp ∧ p.2 ≤ s.til ∧ FlagAt w p.1 true)
  sub : ∀ p ∈ ws, p ∈ al
  wnd : (ws.map Prod.fst).Nodup
  wlen : ws.length ≤ al.length
  wait : al.filter (fun p => !told s p.2) = ws.filter (fun p => !told s p.2)

theorem MkAt.shrink {w : World} {B : Bk} {fp : List Nat} {s : MSt} (h : MkAt w B fp s) : ∃ fp0, MkAt w B fp0 s ∧ ∀ k ∈ fp0, k ∈ fp ∧ k < w.heap.size := by
  obtain ⟨v, hs, es, hm, hf⟩ := h
  exact ⟨foot B v es s, ⟨v, hs, es, hm, fun k hk => hk⟩, fun k hk => ⟨hf k hk, hm.lt k hk⟩⟩

theorem own_lt {w : World} {b : Nat} {e : TypeId} {size : Nat} {v : Value} {n : Nat} {xs : List Value} (h : w.ownsRow b e size v n xs) {k : Nat} (hk : v.ownBlock = some k) : k < w.heap.size := by
  obtain ⟨cur, hc⟩ := ownsRow_block h hk
  exact lt_of_obj hc

section
variable {w0 w w' : World} {B : Bk} {fp : List Nat} {s s' : MSt} {al ws : List (Nat × Int)} {wv ov : Value} {outs : List (TR × Value)}

theorem RunAt.flag (h : RunAt w0 w B fp s al ws wv ov outs) : ∀ p ∈ al, FlagAt w p.1 (told s p.2) := by
  intro p hp
  rcases h.imm p hp with h1 | ⟨h1, h2, h3⟩
  · obtain ⟨v, hs, es, hm, _⟩ := h.mka
    exact hm.flag p h1
  · have : told s p.2 = true := by simpa [told] using h2
    rw [this]; exact h3

theorem RunAt.tch (h : RunAt w0 w B fp s al ws wv ov outs) (t : Tch [] w w') : RunAt w0 w' B fp s al ws wv ov outs :=
  ⟨h.t.trans t, h.mka.tch t (by simp), fun k hk => ⟨(h.fn k hk).1, Nat.lt_of_lt_of_le (h.fn k hk).2 t.size⟩, t.own h.wrow (by simp), h.wn, t.own h.orow (by simp), h.on,
    fun p hp => ⟨t.own (h.dn p hp).1 (by simp), (h.dn p hp).2⟩, fun p hp => (h.imm p hp).imp id (fun ⟨a, b, c⟩ => ⟨a, b, t.obj c (by simp)⟩), h.sub, h.wnd, h.wlen, h.wait⟩

theorem filter_til (l : List (Nat × Int)) (hle : s.til ≤ s'.til) : l.filter (fun p => !told s' p.2) = (l.filter (fun p => !told s p.2)).filter (fun p => !told s' p.2) := by
  rw [List.filter_filter]
  apply List.filter_congr
  intro p _
  rw [Bool.eq_iff_iff]
  simp [told]
  omega

theorem RunAt.step (h : RunAt w0 w B fp s al ws wv ov outs) (hl : Leaves1 w B fp { s' with ws := ws } w') (hle : s.til ≤ s'.til) : ∃ fp', RunAt w0 w' B fp' s' al ws wv ov outs := by
  obtain ⟨fp1, m1, f1, t1⟩ := hl
  obtain ⟨fp2, m2, f2⟩ := m1.shrink
  have T : Tch [] w0 w' := h.t.then t1 (fun i hi hm => absurd (h.fn i hm).1 (by omega))
  have K : ∀ k, k < w.heap.size → k ∉ fp → k ∉ fp2 := by
    intro k hk hn hm
    rcases f1 k (f2 k hm).1 with h1 | h1
    · exact hn h1
    · omega
  refine ⟨fp2, T, m2, fun k hk => ⟨?_, (f2 k hk).2⟩, t1.own h.wrow (fun k hk => (h.wn k hk).2), fun k hk => ⟨(h.wn k hk).1, K k (own_lt h.wrow hk) (h.wn k hk).2⟩,
    t1.own h.orow (fun k hk => (h.on k hk).2), fun k hk => ⟨(h.on k hk).1, K k (own_lt h.orow hk) (h.on k hk).2⟩,
    fun p hp => ⟨t1.own (h.dn p hp).1 (fun k hk => ((h.dn p hp).2 k hk).2), fun k hk => ⟨((h.dn p hp).2 k hk).1, K k (own_lt (h.dn p hp).1 hk) ((h.dn p hp).2 k hk).2⟩⟩,
    fun p hp => (h.imm p hp).imp id (fun ⟨a, b, c⟩ => ⟨K _ (lt_of_obj c) a, Int.le_trans b hle, t1.obj c a⟩), h.sub, h.wnd, h.wlen, ?_⟩
  · rcases f1 k (f2 k hk).1 with h1 | h1
    · exact (h.fn k h1).1
    · exact Nat.le_trans h.t.size h1
  · rw [filter_til al hle, filter_til ws hle, h.wait]

/-- Something has waited: its waiter is put behind the others. -/
theorem RunAt.waited {w1 w2 : World} {b : Nat} {x : Int} {fp1 : List Nat} {o : Obj} {wv' : Value} (h : RunAt w0 w B fp s al ws wv ov outs) (hb : FlagAt w1 b (told s x)) (hm : MkAt w1 B fp1 (wait1 { s with ws := ws } b x)) (hf : ∀ k ∈ fp1, k ∈ fp ∨ w.heap.size ≤ k) (ht : Tch fp w w1) (hbn : w.heap.size ≤ b) (hbf : x ≤ s.til → b ∉ fp1)
    (ho : w2.ownsRow 0 51 1 wv' (al.length + 1) (al.map (fun p => ptr p.1) ++ [ptr b])) (hg : (w1.alloc o).grownBy w2 wv.ownBlock) (hloc : wv'.ownBlock = wv.ownBlock ∨ wv'.ownBlock = some (w1.alloc o).heap.size) :
    ∃ fp' ws', RunAt w0 w2 B fp' s (al ++ [(b, x)]) ws' wv' ov outs := by
  obtain ⟨fp2, m2, f2⟩ := hm.shrink
  have K : ∀ k, k < w.heap.size → k ∉ fp → k ∉ fp2 := by
    intro k hk hn hm
    rcases hf k (f2 k hm).1 with h1 | h1
    · exact hn h1
    · omega
  have hwb : ∀ k ∈ wv.ownBlock.toList, wv.ownBlock = some k := fun k hk => by cases hv : wv.ownBlock <;> simp_all
  have T2 : Tch wv.ownBlock.toList w1 w2 := (((Tch.refl [] w1).alloc o).mono (by simp)).grown hg (fun k hk _ => by rw [hk]; simp)
  have hws1 : ∀ k, wv.ownBlock = some k → k < w.heap.size := fun k hk => own_lt h.wrow hk
  have T : Tch [] w0 w2 := (h.t.then ht (fun i hi hm => absurd (h.fn i hm).1 (by omega))).then T2 (fun i hi hm => absurd (h.wn i (hwb i hm)).1 (by omega))
  have hw1s := ht.size
  have hfp2 : ∀ k ∈ fp2, k ∉ wv.ownBlock.toList := fun k hk hm => K k (hws1 k (hwb k hm)) (h.wn k (hwb k hm)).2 hk
  have hflag : ∀ p ∈ al, p.1 < w.heap.size := fun p hp => lt_of_obj (h.flag p hp)
  have keep : ∀ {e : TypeId} {size : Nat} {v : Value} {n : Nat} {xs : List Value}, w.ownsRow 0 e size v n xs → e ≠ 51 → (∀ k, v.ownBlock = some k → k ∉ fp) → w2.ownsRow 0 e size v n xs := by
    intro e size v n xs hv he hk
    have h1 := ht.own hv hk
    refine T2.own h1 (fun g hg hm => ?_)
    obtain ⟨c1, h2⟩ := ownsRow_block h1 hg
    obtain ⟨c2, h3⟩ := ownsRow_block (ht.own h.wrow (fun k hk => (h.wn k hk).2)) (hwb g hm)
    exact cells_ne h2 h3 he rfl
  have hflk : ∀ {p : Nat} {f : Bool}, FlagAt w1 p f → FlagAt w2 p f := by
    intro p f hp
    refine T2.obj hp (fun hm => ?_)
    obtain ⟨c2, h3⟩ := ownsRow_block (ht.own h.wrow (fun k hk => (h.wn k hk).2)) (hwb p hm)
    exact cells_ne hp h3 (by decide) rfl
  have hwn : ∀ k, wv'.ownBlock = some k → w0.heap.size ≤ k ∧ k ∉ fp2 := by
    intro k hk
    rcases hloc with e | e
    · rw [e] at hk; exact ⟨(h.wn k hk).1, K k (hws1 k hk) (h.wn k hk).2⟩
    · rw [e] at hk
      have hk : (w1.alloc o).heap.size = k := by simpa using hk
      have hsz : (w1.alloc o).heap.size = w1.heap.size + 1 := by simp
      have := h.t.size
      exact ⟨by omega, fun hm => by have := (f2 k hm).2; omega⟩
  have himm : ∀ ws' : List (Nat × Int), (∀ p ∈ ws, p ∈ ws') → ∀ p ∈ al, p ∈ ws' ∨ (p.1 ∉ fp2 ∧ p.2 ≤ s.til ∧ FlagAt w2 p.1 true) := by
    intro ws' hs' p hp
    rcases h.imm p hp with h1 | ⟨a, b, c⟩
    · exact .inl (hs' p h1)
    · exact .inr ⟨K _ (hflag p hp) a, b, hflk (ht.obj c a)⟩
  have hrow : w2.ownsRow 0 51 1 wv' (al ++ [(b, x)]).length ((al ++ [(b, x)]).map fun p => ptr p.1) := by simpa using ho
  have hfn : ∀ k ∈ fp2, w0.heap.size ≤ k ∧ k < w2.heap.size := by
    intro k hk
    have := h.t.size
    have := T2.size
    have h3 := (f2 k hk).2
    refine ⟨?_, by omega⟩
    rcases hf k (f2 k hk).1 with h1 | h1
    · exact (h.fn k h1).1
    · omega
  have mk2 := m2.tch T2 hfp2
  by_cases hx : x ≤ s.til
  · refine ⟨fp2, ws, T, ?_, hfn, hrow, hwn, keep h.orow (by decide) (fun k hk => (h.on k hk).2), fun k hk => ⟨(h.on k hk).1, K k (own_lt h.orow hk) (h.on k hk).2⟩,
      fun p hp => ⟨keep (h.dn p hp).1 (by decide) (fun k hk => ((h.dn p hp).2 k hk).2), fun k hk => ⟨((h.dn p hp).2 k hk).1, K k (own_lt (h.dn p hp).1 hk) ((h.dn p hp).2 k hk).2⟩⟩, ?_, ?_, h.wnd, ?_, ?_⟩
    · rw [wait1, if_pos hx] at mk2; exact mk2
    · intro p hp
      rcases List.mem_append.1 hp with hp | hp
      · exact himm ws (fun _ h => h) p hp
      · have hp := List.mem_singleton.1 hp
        subst hp
        have ht1 : told s x = true := by simpa [told] using hx
        rw [ht1] at hb
        exact .inr ⟨fun hm => hbf hx (f2 b hm).1, hx, hflk hb⟩
    · exact fun p hp => List.mem_append.2 (.inl (h.sub p hp))
    · have := h.wlen; rw [List.length_append]; simp; omega
    · rw [List.filter_append, h.wait]
      have ht1 : told s x = true := by simpa [told] using hx
      simp [ht1]
  · refine ⟨fp2, ws ++ [(b, x)], T, ?_, hfn, hrow, hwn, keep h.orow (by decide) (fun k hk => (h.on k hk).2), fun k hk => ⟨(h.on k hk).1, K k (own_lt h.orow hk) (h.on k hk).2⟩,
      fun p hp => ⟨keep (h.dn p hp).1 (by decide) (fun k hk => ((h.dn p hp).2 k hk).2), fun k hk => ⟨((h.dn p hp).2 k hk).1, K k (own_lt (h.dn p hp).1 hk) ((h.dn p hp).2 k hk).2⟩⟩, ?_, ?_, ?_, ?_, ?_⟩
    · rw [wait1, if_neg hx] at mk2; exact mk2
    · intro p hp
      rcases List.mem_append.1 hp with hp | hp
      · exact himm (ws ++ [(b, x)]) (fun _ h => List.mem_append.2 (.inl h)) p hp
      · have hp := List.mem_singleton.1 hp
        subst hp
        exact .inl (by simp)
    · intro p hp
      rcases List.mem_append.1 hp with hp | hp
      · exact List.mem_append.2 (.inl (h.sub p hp))
      · exact List.mem_append.2 (.inr hp)
    · rw [List.map_append, List.nodup_append]
      refine ⟨h.wnd, by simp, ?_⟩
      intro a ha c hc
      obtain ⟨p, hp, rfl⟩ := List.mem_map.1 ha
      have hc : c = b := by simpa using hc
      have := hflag p (h.sub p hp)
      omega
    · have := h.wlen; simp; omega
    · rw [List.filter_append, List.filter_append, h.wait]

/-- What is told is put behind the others. -/
theorem RunAt.tells {w2 w3 : World} {r : TR} {dv ov' : Value} {o : Obj} (h : RunAt w0 w B fp s al ws wv ov outs) (t : Tch [] w w2) (hd : w2.ownsRow 0 4 1 dv r.done.length (r.done.map Value.bool)) (hdn : ∀ k, dv.ownBlock = some k → w.heap.size ≤ k)
    (ho : w3.ownsRow 0 35 5 ov' (outs.length + 1) (outs.flatMap outCells ++ outCells (r, dv))) (hg : (w2.alloc o).grownBy w3 ov.ownBlock) (hloc : ov'.ownBlock = ov.ownBlock ∨ ov'.ownBlock = some (w2.alloc o).heap.size) :
    RunAt w0 w3 B fp s al ws wv ov' (outs ++ [(r, dv)]) := by
  have h2 := h.tch t
  have hwb : ∀ k ∈ ov.ownBlock.toList, ov.ownBlock = some k := fun k hk => by cases hv : ov.ownBlock <;> simp_all
  have T2 : Tch ov.ownBlock.toList w2 w3 := (((Tch.refl [] w2).alloc o).mono (by simp)).grown hg (fun k hk _ => by rw [hk]; simp)
  have keep : ∀ {e : TypeId} {size : Nat} {v : Value} {n : Nat} {xs : List Value}, w2.ownsRow 0 e size v n xs → e ≠ 35 → w3.ownsRow 0 e size v n xs := by
    intro e size v n xs hv he
    refine T2.own hv (fun g hg hm => ?_)
    obtain ⟨c1, h3⟩ := ownsRow_block hv hg
    obtain ⟨c2, h4⟩ := ownsRow_block h2.orow (hwb g hm)
    exact cells_ne h3 h4 he rfl
  have hs2 := t.size
  have hs3 := T2.size
  have hs0 := h.t.size
  refine ⟨h2.t.then T2 (fun i hi hm => absurd (h.on i (hwb i hm)).1 (by omega)), h2.mka.tch T2 (fun k hk hm => (h.on k (hwb k hm)).2 hk), fun k hk => ⟨(h.fn k hk).1, by have := (h2.fn k hk).2; omega⟩,
    keep h2.wrow (by decide), h.wn, by simpa [List.flatMap_append] using ho, ?_, ?_, ?_, h.sub, h.wnd, h.wlen, h.wait⟩
  · intro k hk
    rcases hloc with e | e
    · rw [e] at hk; exact h.on k hk
    · rw [e] at hk
      have hk : (w2.alloc o).heap.size = k := by simpa using hk
      have hsz : (w2.alloc o).heap.size = w2.heap.size + 1 := by simp
      exact ⟨by omega, fun hm => by have := (h2.fn k hm).2; omega⟩
  · intro p hp
    rcases List.mem_append.1 hp with hp | hp
    · exact ⟨keep (h2.dn p hp).1 (by decide), (h2.dn p hp).2⟩
    · have hp := List.mem_singleton.1 hp
      subst hp
      exact ⟨keep hd (by decide), fun k hk => ⟨by have := hdn k hk; omega, fun hm => by have := hdn k hk; have := (h.fn k hm).2; omega⟩⟩
  · intro p hp
    refine (h2.imm p hp).imp id (fun ⟨a, b, c⟩ => ⟨a, b, T2.obj c (fun hm => ?_)⟩)
    obtain ⟨c2, h4⟩ := ownsRow_block h2.orow (hwb p.1 hm)
    exact cells_ne c h4 (by decide) rfl

end
end Go.Proofs.Ytaheafmdkbobcaa
