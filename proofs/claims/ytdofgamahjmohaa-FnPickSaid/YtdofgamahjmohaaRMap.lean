/- A map keyed by integers, known by the list of its entries in the order in which they were laid. -/
import Derived.Test.YtdofgamahjmohaaMem
namespace Go.Proofs.Ytdofgamahjmohaa
open Go.RowKit Go.MapKept
open Go.ChangeMaps (setBlock heap_setBlock_same heap_setBlock_other map_eraseIdx)

/-- Block b is a map with these keys (of the integer kind q) and values, in this order. -/
def RMap (q : IntKind) (w : World) (b : Nat) (l : List (Int × Value)) : Prop :=
  ∃ es clk, w.heap[b]? = some (.map es clk) ∧ Stamped es clk ∧ es.toList.map (fun e => (e.key, e.val)) = l.map (fun p => (Value.int q p.1, p.2))

theorem RMap.tch {q : IntKind} {w w' : World} {b : Nat} {l : List (Int × Value)} {S : List Nat} (h : RMap q w b l) (t : Tch S w w') (hb : b ∉ S) : RMap q w' b l := by
  obtain ⟨es, clk, h1, h2⟩ := h
  exact ⟨es, clk, t.obj h1 hb, h2⟩
theorem RMap.drewN {q : IntKind} {w : World} {b : Nat} {l : List (Int × Value)} (h : RMap q w b l) (n : Nat) : RMap q (w.drewN n) b l := h
theorem RMap.lt {q : IntKind} {w : World} {b : Nat} {l : List (Int × Value)} (h : RMap q w b l) : b < w.heap.size := by
  obtain ⟨es, clk, h1, h2⟩ := h
  exact lt_of_obj h1
theorem RMap.made (q : IntKind) (w : World) : RMap q (w.alloc (.map #[] 0)) w.heap.size [] := ⟨#[], 0, (MapKept.heap_alloc w _).1, stamped_empty 0, rfl⟩

theorem rmap_isKey {q : IntKind} {es : Array MapEntry} {l : List (Int × Value)} (h : es.toList.map (fun e => (e.key, e.val)) = l.map (fun p => (Value.int q p.1, p.2))) : ∀ x ∈ es.toList, IsKey (.int q) x.key := by
  intro x hx
  have : (x.key, x.val) ∈ es.toList.map (fun e => (e.key, e.val)) := List.mem_map.2 ⟨x, hx, rfl⟩
  rw [h] at this
  obtain ⟨p, _, hp⟩ := List.mem_map.1 this
  simp only [Prod.mk.injEq] at hp
  rw [← hp.1]; rfl

theorem rmap_keys {q : IntKind} {es : Array MapEntry} {l : List (Int × Value)} (h : es.toList.map (fun e => (e.key, e.val)) = l.map (fun p => (Value.int q p.1, p.2))) : es.toList.map (·.key) = l.map (fun p => Value.int q p.1) := by
  have := congrArg (List.map Prod.fst) h
  simpa [List.map_map, Function.comp_def] using this

theorem RMap.nodup {q : IntKind} {w : World} {b : Nat} {l : List (Int × Value)} (h : RMap q w b l) : (l.map Prod.fst).Nodup := by
  obtain ⟨es, clk, h1, h2, h3⟩ := h
  have hk := rmap_keys h3
  have hn := h2.2.2
  rw [hk] at hn
  have : l.map (fun p => Value.int q p.1) = (l.map Prod.fst).map (Value.int q) := by simp [List.map_map, Function.comp_def]
  rw [this] at hn
  exact List.Pairwise.of_map (Value.int q) (fun a b hab e => hab (by rw [e])) hn

/-- The value at a key. -/
def at? (l : List (Int × Value)) (k : Int) : Option Value := (l.find? (fun p => p.1 == k)).map Prod.snd
/-- A store. -/
def putL (l : List (Int × Value)) (k : Int) (v : Value) : List (Int × Value) := if (at? l k).isSome then l.map (fun p => if p.1 = k then (k, v) else p) else l ++ [(k, v)]
/-- A key struck. -/
def delL (l : List (Int × Value)) (k : Int) : List (Int × Value) := l.filter (fun p => p.1 != k)

theorem at?_none {l : List (Int × Value)} {k : Int} : at? l k = none ↔ ∀ p ∈ l, p.1 ≠ k := by
  simp [at?, List.find?_eq_none]
theorem at?_of_get {l : List (Int × Value)} (hn : (l.map Prod.fst).Nodup) {j : Nat} {p : Int × Value} (h : l[j]? = some p) : at? l p.1 = some p.2 := by
  induction l generalizing j with
  | nil => simp at h
  | cons x l ih =>
    simp only [List.map_cons, List.nodup_cons] at hn
    cases j with
    | zero => simp at h; subst h; simp [at?]
    | succ j =>
      simp at h
      have hne : x.1 ≠ p.1 := fun e => hn.1 (by rw [e]; exact List.mem_map.2 ⟨p, List.mem_of_getElem? h, rfl⟩)
      have := ih hn.2 h
      simp only [at?] at this ⊢
      rw [List.find?_cons_of_neg (by simpa using hne)]
      exact this

section
variable {P : Program} {q : IntKind} {w : World} {b : Nat} {l : List (Int × Value)} {t k e : TypeId}

theorem RMap.find (h : RMap q w b l) (hk : P.underlying k = some (.int q)) (x : Int) : ∃ es clk, w.heap[b]? = some (.map es clk) ∧ Stamped es clk ∧ es.toList.map (fun e => (e.key, e.val)) = l.map (fun p => (Value.int q p.1, p.2)) ∧
    ((at? l x = none ∧ (Instr.findKey k (.int q x) es.toList).run P w = .ok none w ∧ ∀ y ∈ es.toList, y.key ≠ .int q x) ∨
     ∃ j v en, at? l x = some v ∧ (Instr.findKey k (.int q x) es.toList).run P w = .ok (some (j, v)) w ∧ es[j]? = some en ∧ en.key = .int q x ∧ en.val = v ∧ l[j]? = some (x, v)) := by
  have hnd := h.nodup
  obtain ⟨es, clk, h1, h2, h3⟩ := h
  refine ⟨es, clk, h1, h2, h3, ?_⟩
  have hks := rmap_isKey h3
  rcases findNow_spec (d := .int q) (k := .int q x) rfl es.toList 0 hks with ⟨f1, f2⟩ | ⟨j, en, f1, f2, f3⟩
  · left
    refine ⟨?_, run_findKey hk f1, f2⟩
    rw [at?_none]
    intro p hp e
    have : (Value.int q p.1, p.2) ∈ l.map (fun p => (Value.int q p.1, p.2)) := List.mem_map.2 ⟨p, hp, rfl⟩
    rw [← h3] at this
    obtain ⟨y, hy, he⟩ := List.mem_map.1 this
    simp only [Prod.mk.injEq] at he
    exact f2 y hy (by rw [he.1, e])
  · right
    have hj : (l.map (fun p => (Value.int q p.1, p.2)))[j]? = some (en.key, en.val) := by rw [← h3, List.getElem?_map, f2]; rfl
    rw [List.getElem?_map] at hj
    cases hlj : l[j]? with
    | none => rw [hlj] at hj; simp at hj
    | some p =>
      rw [hlj] at hj
      simp only [Option.map_some, Option.some.injEq, Prod.mk.injEq] at hj
      rw [f3] at hj
      obtain ⟨hx, hv⟩ := hj
      simp only [Value.int.injEq, true_and] at hx
      have := at?_of_get hnd hlj
      rw [hx] at this
      refine ⟨j, p.2, en, this, by rw [hv]; simpa using run_findKey hk f1, by simpa using f2, f3, hv.symm, ?_⟩
      rw [hlj, ← hx]

theorem RMap.lookup (h : RMap q w b l) (hk : P.underlying k = some (.int q)) (ht : P.underlying t = some (.map k e)) {z : Value} (hz : (zeroValue e).run P w = .ok z w) (x : Int) :
    (Instr.lookup t (.map (some b)) (.int q x) false).run P w = .ok ((at? l x).getD z) w := by
  obtain ⟨es, clk, h1, h2, h3, h4⟩ := h.find hk x
  rcases h4 with ⟨ha, hf, _⟩ | ⟨j, v, en, ha, hf, _⟩
  · simp [Instr.lookup, run_underlying ht, MapKept.run_getObj_map h1, run_checkKey hk (k := .int q x) rfl, hf, ha, hz, Result.andThen]
  · simp [Instr.lookup, run_underlying ht, MapKept.run_getObj_map h1, run_checkKey hk (k := .int q x) rfl, hf, ha, Result.andThen]

theorem RMap.lookup_ok (h : RMap q w b l) (hk : P.underlying k = some (.int q)) (ht : P.underlying t = some (.map k e)) {z : Value} (hz : (zeroValue e).run P w = .ok z w) (x : Int) :
    (Instr.lookup t (.map (some b)) (.int q x) true).run P w = .ok (.tuple #[(at? l x).getD z, .bool (at? l x).isSome]) w := by
  obtain ⟨es, clk, h1, h2, h3, h4⟩ := h.find hk x
  rcases h4 with ⟨ha, hf, _⟩ | ⟨j, v, en, ha, hf, _⟩
  · simp [Instr.lookup, run_underlying ht, MapKept.run_getObj_map h1, run_checkKey hk (k := .int q x) rfl, hf, ha, hz, Result.andThen]
  · simp [Instr.lookup, run_underlying ht, MapKept.run_getObj_map h1, run_checkKey hk (k := .int q x) rfl, hf, ha, Result.andThen]

theorem RMap.len (h : RMap q w b l) (ht : P.underlying t = some (.map k e)) (ty : TypeId) : (Builtin.len_ #[t] ty #[.map (some b)]).run P w = .ok (.int .i64 l.length) w := by
  obtain ⟨es, clk, h1, h2, h3⟩ := h
  have : es.size = l.length := by have := congrArg List.length h3; simpa using this
  simp [Builtin.len_, run_underlying ht, MapKept.run_getObj_map h1, Result.andThen, this, goInt]
/-- What a store leaves. -/
theorem setBlock_tch {w : World} {b : Nat} {es : Array MapEntry} {clk : Nat} (h1 : w.heap[b]? = some (.map es clk)) (o : Obj) : Tch [b] w (setBlock w b o) :=
  ⟨rfl, rfl, by simp [setBlock], fun i _ hi => heap_setBlock_other h1 _ (fun e => hi (by simp [e]))⟩

theorem RMap.update (h : RMap q w b l) (hk : P.underlying k = some (.int q)) (ht : P.underlying t = some (.map k e)) (x : Int) (v : Value) :
    ∃ w', (Instr.mapUpdate t (.map (some b)) (.int q x) v).run P w = .ok () w' ∧ RMap q w' b (putL l x v) ∧ Tch [b] w w' := by
  have hnd := h.nodup
  obtain ⟨es, clk, h1, h2, h3, h4⟩ := h.find hk x
  rcases h4 with ⟨ha, hf, hne⟩ | ⟨j, v0, en, ha, hf, hen, hkey, hval, hlj⟩
  · refine ⟨setBlock w b (.map (es.push { key := .int q x, val := v, born := clk }) (clk + 1)), ?_, ⟨_, _, heap_setBlock_same h1 _, stamped_push h2 hne, ?_⟩, setBlock_tch h1 _⟩
    · simp [Instr.mapUpdate, run_underlying ht, MapKept.run_getObj_map h1, run_checkKey hk (k := .int q x) rfl, hf, MapKept.run_setObj_map _ h1, Result.andThen, setBlock]
    · unfold putL
      rw [ha]
      simp [h3]
  · have hkeep : (Instr.keyThatStays (.int q x) (.int q x)).run P w = .ok (.int q x) w := run_keyThatStays (d := .int q) rfl
    refine ⟨setBlock w b (.map (es.modify j fun e => { e with key := .int q x, val := v }) clk), ?_, ⟨_, _, heap_setBlock_same h1 _, stamped_modify h2 _ _ (fun _ _ => rfl) (fun e' _ he' => by rw [hen] at he'; cases he'; exact hkey.symm), ?_⟩, setBlock_tch h1 _⟩
    · simp [Instr.mapUpdate, run_underlying ht, MapKept.run_getObj_map h1, run_checkKey hk (k := .int q x) rfl, hf, hen, hkey, hkeep, MapKept.run_setObj_map _ h1, Result.andThen, setBlock]
    · unfold putL
      rw [ha]
      simp only [Option.isSome_some, if_true]
      apply List.ext_getElem?
      intro i
      have hi3 : (es.toList.map (fun e => (e.key, e.val)))[i]? = (l.map (fun p => (Value.int q p.1, p.2)))[i]? := by rw [h3]
      simp only [List.getElem?_map, Array.getElem?_toList] at hi3
      simp only [List.getElem?_map, Array.getElem?_toList, Array.getElem?_modify]
      by_cases hij : j = i
      · subst hij
        simp [hen, hlj]
      · rw [if_neg hij, hi3]
        cases hli : l[i]? with
        | none => simp
        | some p =>
          have hpx : p.1 ≠ x := by
            intro e
            have hj' : (l.map Prod.fst)[j]? = some x := by rw [List.getElem?_map, hlj]; rfl
            have hi' : (l.map Prod.fst)[i]? = some x := by rw [List.getElem?_map, hli]; simp [e]
            have hji := (List.getElem?_eq_some_iff.1 hj').1
            exact hij ((List.getElem?_inj hji hnd).1 (by rw [hj', hi']))
          simp [hpx]

theorem RMap.delete (h : RMap q w b l) (hk : P.underlying k = some (.int q)) (ht : P.underlying t = some (.map k e)) (x : Int) (ty : TypeId) :
    ∃ w', (Builtin.delete_ #[t, k] ty #[.map (some b), .int q x]).run P w = .ok (.tuple #[]) w' ∧ RMap q w' b (delL l x) ∧ Tch [b] w w' := by
  have hnd := h.nodup
  obtain ⟨es, clk, h1, h2, h3, h4⟩ := h.find hk x
  rcases h4 with ⟨ha, hf, hne⟩ | ⟨j, v0, en, ha, hf, hen, hkey, hval, hlj⟩
  · refine ⟨setBlock w b (.map es clk), ?_, ⟨_, _, heap_setBlock_same h1 _, h2, ?_⟩, setBlock_tch h1 _⟩
    · simp [Builtin.delete_, run_underlying ht, MapKept.run_getObj_map h1, run_checkKey hk (k := .int q x) rfl, hf, MapKept.run_setObj_map _ h1, Result.andThen, setBlock]
    · have : delL l x = l := by
        unfold delL
        rw [List.filter_eq_self]
        intro p hp
        simpa using at?_none.1 ha p hp
      rw [this]; exact h3
  · refine ⟨setBlock w b (.map (es.eraseIdxIfInBounds j) clk), ?_, ⟨_, _, heap_setBlock_same h1 _, stamped_erase h2 _, ?_⟩, setBlock_tch h1 _⟩
    · simp [Builtin.delete_, run_underlying ht, MapKept.run_getObj_map h1, run_checkKey hk (k := .int q x) rfl, hf, MapKept.run_setObj_map _ h1, Result.andThen, setBlock]
    · have hjl : j < es.size := (Array.getElem?_eq_some_iff.1 hen).1
      have e1 : (es.eraseIdxIfInBounds j).toList = es.toList.eraseIdx j := by
        unfold Array.eraseIdxIfInBounds
        rw [dif_pos hjl]; simp
      rw [e1, map_eraseIdx, h3, ← map_eraseIdx]
      congr 1
      have hjll := (List.getElem?_eq_some_iff.1 hlj).1
      unfold delL
      clear h1 h2 h3 e1 hjl hen hf ha h
      induction l generalizing j with
      | nil => simp at hjll
      | cons p l ih =>
        simp only [List.map_cons, List.nodup_cons] at hnd
        cases j with
        | zero =>
          simp only [List.getElem?_cons_zero, Option.some.injEq] at hlj
          subst hlj
          simp only [List.eraseIdx_cons_zero]
          rw [List.filter_cons_of_neg (by simp)]
          symm
          rw [List.filter_eq_self]
          intro p' hp'
          have : p'.1 ≠ x := fun e => hnd.1 (by rw [← e]; exact List.mem_map.2 ⟨p', hp', rfl⟩)
          simpa using this
        | succ j =>
          simp only [List.getElem?_cons_succ] at hlj
          simp only [List.eraseIdx_cons_succ]
          have hpx : p.1 ≠ x := fun e => hnd.1 (by rw [e]; exact List.mem_map.2 ⟨(x, v0), List.mem_of_getElem? hlj, rfl⟩)
          rw [List.filter_cons_of_pos (by simpa using hpx), ih hnd.2 j hlj (by simpa using hjll)]
end

/-! Ranging. -/

/-- Block r is an iterator over the map in block b, whose entries are l; left are the keys that are still to come. -/
def RIter (q : IntKind) (w : World) (r b : Nat) (l : List (Int × Value)) (left : List Int) : Prop :=
  ∃ es clk since seen c0, w.heap[b]? = some (.map es clk) ∧ Stamped es clk ∧ es.toList.map (fun e => (e.key, e.val)) = l.map (fun p => (Value.int q p.1, p.2)) ∧
    w.heap[r]? = some (.mapIter (some b) since seen c0) ∧ (∀ x ∈ es.toList, x.born < since) ∧ since ≤ c0 ∧ since ≤ clk ∧ (leftOf es seen).toList.map (·.key) = left.map (Value.int q)

theorem RIter.map {q : IntKind} {w : World} {r b : Nat} {l : List (Int × Value)} {left : List Int} (h : RIter q w r b l left) : RMap q w b l := by
  obtain ⟨es, clk, since, seen, c0, h1, h2, h3, _⟩ := h
  exact ⟨es, clk, h1, h2, h3⟩

theorem RIter.lt {q : IntKind} {w : World} {r b : Nat} {l : List (Int × Value)} {left : List Int} (h : RIter q w r b l left) : r < w.heap.size := by
  obtain ⟨es, clk, since, seen, c0, h1, h2, h3, h4, _⟩ := h
  exact lt_of_obj h4

theorem RIter.tch {q : IntKind} {w w' : World} {r b : Nat} {l : List (Int × Value)} {left : List Int} {S : List Nat} (h : RIter q w r b l left) (t : Tch S w w') (hr : r ∉ S) (hb : b ∉ S) : RIter q w' r b l left := by
  obtain ⟨es, clk, since, seen, c0, h1, h2, h3, h4, h5⟩ := h
  exact ⟨es, clk, since, seen, c0, t.obj h1 hb, h2, h3, t.obj h4 hr, h5⟩

theorem leftOf_sub {es : Array MapEntry} {seen : Array Nat} : ∀ x ∈ (leftOf es seen).toList, x ∈ es.toList := by
  intro x hx
  simp [leftOf] at hx
  simpa using hx.1

theorem nodup_at {α β : Type} {l : List α} {f : α → β} (hn : (l.map f).Nodup) {a b : α} (ha : a ∈ l) (hb : b ∈ l) (h : f a = f b) : a = b := by
  obtain ⟨i, hi, rfl⟩ := List.getElem_of_mem ha
  obtain ⟨j, hj, rfl⟩ := List.getElem_of_mem hb
  have := (List.getElem?_inj (l := l.map f) (i := i) (j := j) (by simpa using hi) hn).1 (by simp [hi, hj, h])
  subst this; rfl

theorem leftOf_push {q : IntKind} {es : Array MapEntry} {clk : Nat} {seen : Array Nat} {en : MapEntry} {x : Int} {left : List Int} (h2 : Stamped es clk) (hm : en ∈ es.toList) (hx : en.key = .int q x)
    (h : (leftOf es seen).toList.map (·.key) = left.map (Value.int q)) : (leftOf es (seen.push en.born)).toList.map (·.key) = (left.filter (· != x)).map (Value.int q) := by
  have hint : ∀ y ∈ (leftOf es seen).toList, ∃ z, y.key = .int q z := by
    intro y hy
    have : y.key ∈ (leftOf es seen).toList.map (·.key) := List.mem_map.2 ⟨y, hy, rfl⟩
    rw [h] at this
    obtain ⟨z, _, hz⟩ := List.mem_map.1 this
    exact ⟨z, hz.symm⟩
  have e1 : (leftOf es (seen.push en.born)).toList = (leftOf es seen).toList.filter (fun y => intOf y.key != x) := by
    have e0 : (leftOf es (seen.push en.born)).toList = (leftOf es seen).toList.filter (fun y => !(y.born == en.born)) := by
      simp only [leftOf, Array.toList_filter, List.filter_filter]
      apply List.filter_congr
      intro y hy
      rw [Bool.eq_iff_iff]
      simp [and_comm]
    rw [e0]
    apply List.filter_congr
    intro y hy
    obtain ⟨z, hz⟩ := hint y hy
    have hyl := leftOf_sub y hy
    rw [Bool.eq_iff_iff]
    simp only [Bool.not_eq_true', beq_eq_false_iff_ne, bne_iff_ne, hz, intOf, ne_eq]
    refine not_congr ?_
    constructor
    · intro e
      have := nodup_at h2.2.1 hyl hm e
      rw [this, hx] at hz; simp at hz; exact hz.symm
    · intro e
      have := nodup_at h2.2.2 hyl hm (by rw [hz, hx, e])
      rw [this]
  rw [e1]
  have e2 : ((leftOf es seen).toList.filter (fun y => intOf y.key != x)).map (·.key) = ((leftOf es seen).toList.map (·.key)).filter (fun v => intOf v != x) := by
    rw [List.filter_map]; rfl
  rw [e2, h, List.filter_map]
  rfl

section
variable {P : Program} {q : IntKind} {w : World} {r b : Nat} {l : List (Int × Value)} {left : List Int} {t k e : TypeId}

theorem RMap.range (h : RMap q w b l) (ht : P.underlying t = some (.map k e)) : ∃ w', (Instr.range t (.map (some b))).run P w = .ok (.pointer (some ⟨w.heap.size, 0, none⟩)) w' ∧ RIter q w' w.heap.size b l (l.map Prod.fst) ∧ Tch [] w w' ∧ w'.heap.size = w.heap.size + 1 := by
  obtain ⟨es, clk, h1, h2, h3⟩ := h
  refine ⟨w.alloc (.mapIter (some b) clk #[] clk), ?_, ⟨es, clk, clk, #[], clk, ?_, h2, h3, (MapKept.heap_alloc w _).1, h2.1, Nat.le_refl _, Nat.le_refl _, ?_⟩, (Tch.refl _ _).alloc _, by simp⟩
  · simp [Instr.range, run_underlying ht, MapKept.run_getObj_map h1, Result.andThen]
  · rw [(MapKept.heap_alloc w _).2 _ (lt_of_obj h1)]; exact h1
  · have : leftOf es #[] = es := by simp [leftOf]
    rw [this, rmap_keys h3]; simp [List.map_map, Function.comp_def]

/-- A step. -/
theorem RIter.next (h : RIter q w r b l left) (hrb : r ≠ b) (ty : TypeId) :
    (left = [] ∧ (Instr.next (.pointer (some ⟨r, 0, none⟩)) false ty).run P w = .ok (.tuple #[.bool false]) w) ∨
    ∃ x v w', x ∈ left ∧ at? l x = some v ∧ (Instr.next (.pointer (some ⟨r, 0, none⟩)) false ty).run P w = .ok (.tuple #[.bool true, .int q x, v]) w' ∧ RIter q w' r b l (left.filter (· != x)) ∧ Tch [r] w w' ∧ w'.heap.size = w.heap.size ∧
      (Instr.entry (.pointer (some ⟨r, 0, none⟩))).run P w' = .ok (.tuple #[.int q x, v]) w' := by
  have hnd := h.map.nodup
  obtain ⟨es, clk, since, seen, c0, h1, h2, h3, h4, h5, h6, h6', h7⟩ := h
  rcases run_next_at (P := P) w ty r b since c0 seen es clk h4 h1 h5 h6 with ⟨hz, hrun⟩ | ⟨en, hen, w1, hw1, hrun⟩
  · left
    refine ⟨?_, hrun⟩
    have := congrArg List.length h7
    simp at this
    exact List.eq_nil_of_length_eq_zero (by omega)
  · right
    have hmem := leftOf_sub en hen
    have hkey := rmap_isKey h3 en hmem
    obtain ⟨x, hx⟩ : ∃ x, en.key = .int q x := by
      cases hk : en.key <;> rw [hk] at hkey <;> simp [IsKey] at hkey
      rename_i k' n; subst hkey; exact ⟨n, rfl⟩
    have hxl : x ∈ left := by
      have : en.key ∈ (leftOf es seen).toList.map (·.key) := List.mem_map.2 ⟨en, hen, rfl⟩
      rw [h7, hx] at this
      obtain ⟨y, hy, he⟩ := List.mem_map.1 this
      simp at he; subst he; exact hy
    have hat : at? l x = some en.val := by
      obtain ⟨j, hj, hje⟩ := List.getElem_of_mem hmem
      have hj2 : (l.map (fun p => (Value.int q p.1, p.2)))[j]? = some (en.key, en.val) := by rw [← h3, List.getElem?_map, List.getElem?_eq_getElem hj, hje]; rfl
      rw [List.getElem?_map] at hj2
      cases hlj : l[j]? with
      | none => rw [hlj] at hj2; simp at hj2
      | some p =>
        rw [hlj] at hj2
        simp only [Option.map_some, Option.some.injEq, Prod.mk.injEq, hx, Value.int.injEq, true_and] at hj2
        have := at?_of_get hnd hlj
        rw [hj2.1, hj2.2] at this
        exact this
    have hr1 : w1.heap = w.heap := by rcases hw1 with rfl | rfl <;> rfl
    have hos : w1.os = w.os ∧ w1.output = w.output := by rcases hw1 with rfl | rfl <;> exact ⟨rfl, rfl⟩
    have T : Tch [r] w (setBlock w1 r (.mapIter (some b) since (seen.push en.born) clk)) := by
      refine ⟨hos.1, hos.2, by simp [setBlock, hr1], fun i _ hi => ?_⟩
      simp only [setBlock, hr1]
      rw [Array.getElem?_setIfInBounds_ne (by simpa using Ne.symm (by simpa using hi))]
    have hb' : (setBlock w1 r (.mapIter (some b) since (seen.push en.born) clk)).heap[b]? = some (.map es clk) := T.obj h1 (by simpa using Ne.symm hrb)
    have hr' : (setBlock w1 r (.mapIter (some b) since (seen.push en.born) clk)).heap[r]? = some (.mapIter (some b) since (seen.push en.born) clk) := by
      simp only [setBlock, hr1]
      rw [Array.getElem?_setIfInBounds_self_of_lt (lt_of_obj h4)]
    refine ⟨x, en.val, _, hxl, hat, by rw [hrun, hx], ⟨es, clk, since, seen.push en.born, clk, hb', h2, h3, hr', h5, h6', h6', ?_⟩, T, by simp [setBlock, hr1], ?_⟩
    · exact leftOf_push h2 hmem hx h7
    · rw [← hx]; exact run_entry_at _ r b since seen es clk en hr' hb' hmem h2.2.1

end

end Go.Proofs.Ytdofgamahjmohaa
