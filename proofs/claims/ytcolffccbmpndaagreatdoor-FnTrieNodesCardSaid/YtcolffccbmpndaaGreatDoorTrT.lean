/- Steps over a trie: what they tell, plain; steps and what is told in memory. -/
import Derived.Test.YtcolffccbmpndaaGreatDoorTrK
namespace Go.Proofs.YtcolffccbmpndaaGreatDoor
open Go.RowKit
set_option maxRecDepth 100000

/-- A step. -/
structure StepD where
  kind : Int
  bytes : List Int
  holes : List UInt8
  id : Int
  deriving Inhabited
/-- What a step tells. -/
structure TTold where
  ok : Bool
  ids : List Int
  many : Int
  nodes : Int
  deriving Inhabited

/-- A number put into a list in order, once. -/
def putO : List Int → Int → List Int
  | [], n => [n]
  | x :: l, n => if x < n then x :: putO l n else if x = n then x :: l else n :: x :: l
def upT (l : List Int) : Prop := l.Pairwise (· < ·)
theorem putO_mem (n x : Int) : ∀ l : List Int, x ∈ putO l n ↔ x ∈ l ∨ x = n
  | [] => by simp [putO]
  | y :: l => by
    unfold putO
    split
    · rw [List.mem_cons, putO_mem n x l, List.mem_cons, or_assoc]
    · split
      · rename_i h; subst h
        constructor
        · exact .inl
        · rintro (h | rfl); exact h; simp
      · simp only [List.mem_cons]
        constructor
        · rintro (h | h | h)
          · exact .inr h
          · exact .inl (.inl h)
          · exact .inl (.inr h)
        · rintro ((h | h) | h)
          · exact .inr (.inl h)
          · exact .inr (.inr h)
          · exact .inl h
theorem putO_up (n : Int) : ∀ l : List Int, upT l → upT (putO l n)
  | [], _ => List.pairwise_singleton _ _
  | y :: l, h => by
    obtain ⟨h1, h2⟩ := List.pairwise_cons.1 h
    unfold putO
    split
    · rename_i hlt
      refine List.pairwise_cons.2 ⟨fun z hz => ?_, putO_up n l h2⟩
      rcases (putO_mem n z l).1 hz with hz | rfl
      · exact h1 z hz
      · exact hlt
    · split
      · exact h
      · rename_i hge hne
        refine List.pairwise_cons.2 ⟨fun z hz => ?_, h⟩
        rcases List.mem_cons.1 hz with rfl | hz
        · omega
        · have := h1 z hz; omega
/-- The numbers for a key. -/
def idsFor (st : Stand) (key : List Int) : List Int := (st.filter (fun y => fitsP y.1 key)).foldl (fun l y => putO l y.2) []
theorem foldl_put (ys : Stand) : ∀ l : List Int, upT l → upT (ys.foldl (fun l y => putO l y.2) l) ∧ ∀ x, x ∈ ys.foldl (fun l y => putO l y.2) l ↔ x ∈ l ∨ ∃ y ∈ ys, y.2 = x := by
  induction ys with
  | nil => intro l h; exact ⟨h, fun x => by simp⟩
  | cons y t ih =>
    intro l h
    obtain ⟨h1, h2⟩ := ih (putO l y.2) (putO_up _ _ h)
    refine ⟨h1, fun x => ?_⟩
    rw [List.foldl_cons, h2 x, putO_mem, or_assoc]
    refine or_congr Iff.rfl ?_
    constructor
    · rintro (rfl | ⟨z, hz, e⟩)
      · exact ⟨y, by simp, rfl⟩
      · exact ⟨z, by simp [hz], e⟩
    · rintro ⟨z, hz, e⟩
      rcases List.mem_cons.1 hz with rfl | hz
      · exact .inl e.symm
      · exact .inr ⟨z, hz, e⟩
theorem idsFor_up (st : Stand) (key : List Int) : upT (idsFor st key) := (foldl_put _ [] List.Pairwise.nil).1
theorem idsFor_mem (st : Stand) (key : List Int) (x : Int) : x ∈ idsFor st key ↔ ∃ y ∈ st, y.2 = x ∧ fitsP y.1 key = true := by
  unfold idsFor
  rw [(foldl_put _ [] List.Pairwise.nil).2 x]
  constructor
  · rintro (h | ⟨y, hy, e⟩)
    · simp at h
    · exact ⟨y, (List.mem_filter.1 hy).1, e, (List.mem_filter.1 hy).2⟩
  · rintro ⟨y, hy, e, hf⟩
    exact .inr ⟨y, List.mem_filter.2 ⟨hy, hf⟩, e⟩
/-- A list in order, each number once, is told by its numbers. -/
theorem idsFor_of {st : Stand} {key : List Int} {l : List Int} (hu : upS l) (hn : l.Nodup) (hm : ∀ x, x ∈ l ↔ Found (Cst st) [] key x) : l = idsFor st key := by
  have hup := idsFor_up st key
  have hn2 : (idsFor st key).Nodup := hup.imp (fun h e => by omega)
  have hp : l.Perm (idsFor st key) := (List.perm_ext_iff_of_nodup hn hn2).2 (fun x => by rw [hm x, Cst_found, idsFor_mem])
  refine List.Perm.eq_of_pairwise (le := fun x y => x ≤ y) (fun a b _ _ h1 h2 => by omega) hu (hup.imp (fun h => by omega)) hp

/-- The holes of a step's prefix; none where its text tells none. -/
def holesD (s : StepD) : Option (Nat → Bool) := if s.kind = 1 ∨ s.kind = 3 then (parseP s.holes).map (·.2) else some (fun _ => false)
/-- What stands behind a step, and what it tells. -/
def stepT (st : Stand) (s : StepD) : Stand × TTold :=
  if s.kind = 0 ∨ s.kind = 1 then
    match holesD s with
    | none => (st, ⟨false, [], 0, 0⟩)
    | some f => (st ++ [(pathOf f s.bytes, s.id)], ⟨true, [], 0, 0⟩)
  else if s.kind = 2 ∨ s.kind = 3 then
    match holesD s with
    | none => (st, ⟨false, [], 0, 0⟩)
    | some f => (strikeS st (pathOf f s.bytes) s.id, ⟨true, [], 0, 0⟩)
  else if s.kind = 4 then (st, ⟨true, idsFor st s.bytes, (idsFor st s.bytes).length, 0⟩)
  else if s.kind = 5 then (st, ⟨true, [], 0, (nodesS st).length⟩)
  else (st, ⟨true, [], 0, 0⟩)
def runT : Stand → List StepD → List TTold
  | _, [] => []
  | st, s :: L => (stepT st s).2 :: runT (stepT st s).1 L
def standT (L : List StepD) : Stand := L.foldl (fun st s => (stepT st s).1) []
theorem runT_append (st : Stand) (L M : List StepD) : runT st (L ++ M) = runT st L ++ runT (L.foldl (fun st s => (stepT st s).1) st) M := by
  induction L generalizing st with
  | nil => rfl
  | cons s L ih =>
    show (stepT st s).2 :: runT (stepT st s).1 (L ++ M) = _
    rw [ih (stepT st s).1]; rfl
theorem runT_len (st : Stand) : ∀ L : List StepD, (runT st L).length = L.length := by
  intro L
  induction L generalizing st with
  | nil => rfl
  | cons s L ih => show ((stepT st s).2 :: runT (stepT st s).1 L).length = _; rw [List.length_cons, ih, List.length_cons]

/-- A step that the walk takes. -/
structure okS (s : StepD) : Prop where
  bytes : s.bytes.length ≤ 20000
  holes : s.holes.length ≤ 1000000
  small : s.kind = 1 ∨ s.kind = 3 → ∀ p ∈ splitB 44 (trimS s.holes), smallI p

theorem stepT_size (st : Stand) (s : StepD) (h : s.bytes.length ≤ 20000) : (stepT st s).1.length ≤ st.length + 1 ∧ sizeS (stepT st s).1 ≤ sizeS st + 20000 := by
  have happ : ∀ f, (st ++ [(pathOf f s.bytes, s.id)]).length ≤ st.length + 1 ∧ sizeS (st ++ [(pathOf f s.bytes, s.id)]) ≤ sizeS st + 20000 := fun f => by
    refine ⟨by simp, ?_⟩
    unfold sizeS
    rw [List.map_append, List.sum_append]
    simp [pathOf_len]
    omega
  have hstr : ∀ p id, (strikeS st p id).length ≤ st.length + 1 ∧ sizeS (strikeS st p id) ≤ sizeS st + 20000 := fun p id => by
    have := strikeS_sub st p id
    exact ⟨by omega, by omega⟩
  have hsame : st.length ≤ st.length + 1 ∧ sizeS st ≤ sizeS st + 20000 := ⟨by omega, by omega⟩
  unfold stepT
  split
  · split
    · exact hsame
    · exact happ _
  · split
    · split
      · exact hsame
      · exact hstr _ _
    · split
      · exact hsame
      · split
        · exact hsame
        · exact hsame

/-- A step in memory, at a place. -/
structure StepAt (w : World) (a : Addr) (p : StepD) : Prop where
  lt : a.block < w.heap.size
  kind : w.cell? a = some (.int .i64 p.kind)
  bytes : ∃ ba bc, w.cell? (a.add 1) = some (.slice ba p.bytes.length bc) ∧ By w p.bytes ba bc
  holes : w.cell? (a.add 2) = some (.string (bs p.holes))
  id : w.cell? (a.add 3) = some (.int .u64 p.id)
theorem StepAt.tch {w w' : World} {a : Addr} {p : StepD} (h : StepAt w a p) (t : Tch [] w w') : StepAt w' a p := by
  obtain ⟨ba, bc, h1, h2⟩ := h.bytes
  exact ⟨Nat.lt_of_lt_of_le h.lt t.size, cell_tch h.kind t, ⟨ba, bc, cell_tch h1 t, h2.tch t⟩, cell_tch h.holes t, cell_tch h.id t⟩
/-- Steps in memory. -/
def StepsAt (w : World) (sa : Option Addr) (L : List StepD) : Prop := ∀ i, i < L.length → ∃ a, sa = some a ∧ StepAt w (a.add (i * 4)) (L.getD i default)
theorem StepsAt.tch {w w' : World} {sa : Option Addr} {L : List StepD} (h : StepsAt w sa L) (t : Tch [] w w') : StepsAt w' sa L := by
  intro i hi
  obtain ⟨a, ha, h'⟩ := h i hi
  exact ⟨a, ha, h'.tch t⟩

def tolC (p : TTold × Value) : List Value := [.bool p.1.ok, p.2, .int .i64 p.1.many, .int .i64 p.1.nodes]
/-- What is told, in new memory, beside the trie. -/
structure OutT (w0 w : World) (N : Net) (ov : Value) (outs : List (TTold × Value)) : Prop where
  row : Own w0 w 33 4 ov outs.length (outs.flatMap tolC)
  ids : ∀ p ∈ outs, w.ownsRow w0.heap.size 26 1 p.2 p.1.ids.length (uV p.1.ids) ∧ ∀ k, p.2.ownBlock = some k → ¬ fpAt N [] k
theorem OutT.tch {w0 w w' : World} {N : Net} {ov : Value} {outs : List (TTold × Value)} (h : OutT w0 w N ov outs) (t : Tch [] w w') : OutT w0 w' N ov outs :=
  ⟨h.row.tch t, fun p hp => ⟨t.own (h.ids p hp).1 (by simp), (h.ids p hp).2⟩⟩

/-- A block of another kind is none of a trie's. -/
theorem TM.other {w : World} {base root : Nat} {N : Net} (h : TM w base root N) {k : Nat} {cs : Array Value} {e : TypeId} {fr : Nat × Nat} (hk : w.heap[k]? = some (.cells cs e fr)) (h1 : e ≠ 86) (h2 : e ≠ 26) : ¬ fpAt N [] k := by
  rintro ⟨q, r, hq, hr⟩
  have hnd := h.node q r (by simpa using hq)
  rcases hr with e1 | e1 | e1
  · rw [e1, hnd.cells] at hk; simp at hk; exact h1 hk.2.1.symm
  · obtain ⟨es, clk, h3, -⟩ := hnd.map
    rw [e1, h3] at hk; simp at hk
  · obtain ⟨cur, h3⟩ := ownsRow_block hnd.row e1
    rw [h3] at hk; simp at hk; exact h2 hk.2.1.symm
theorem Went.tch0 {w0 w w' : World} {tb root : Nat} {N N' : Net} {C : Cont} (h : Went w w0.heap.size tb root N C w' N') (h0 : TrAt w w0.heap.size tb root N) (t : Tch [] w0 w) : Tch [] w0 w' :=
  ⟨h.t.os.trans t.os, h.t.output.trans t.output, Nat.le_trans t.size h.t.size, fun k hk _ => by
    rw [h.t.block k (Nat.lt_of_lt_of_le hk t.size) (fun hf => by have := (h0.tm.fp_lt hf).1; omega)]
    exact t.block k hk (by simp)⟩
theorem OutT.went {w0 w w' : World} {tb root : Nat} {N N' : Net} {C : Cont} {ov : Value} {outs : List (TTold × Value)} (h : OutT w0 w N ov outs) (h0 : TrAt w w0.heap.size tb root N) (hW : Went w w0.heap.size tb root N C w' N') : OutT w0 w' N' ov outs := by
  refine ⟨⟨hW.tch0 h0 h.row.t, ownsRow_tof hW.t h.row.row (fun g hg => ?_)⟩, fun p hp => ⟨ownsRow_tof hW.t (h.ids p hp).1 (h.ids p hp).2, fun k hk hf => ?_⟩⟩
  · obtain ⟨cur, hc⟩ := ownsRow_block h.row.row hg
    exact h0.tm.other hc (by decide) (by decide)
  · rcases hW.fp k hf with h1 | h1
    · exact (h.ids p hp).2 k hk h1
    · have := ((h.ids p hp).1.lt k hk).2; omega

theorem StepAt.all {w : World} {a : Addr} {k : Nat} {p : StepD} (h : StepAt w (a.add (k * 4)) p) : ∃ ba bc, w.cell? (a.add (k * 4)) = some (.int .i64 p.kind) ∧ w.cell? ⟨(a.add (k * 4)).block, (a.add (k * 4)).off + 1, none⟩ = some (.slice ba p.bytes.length bc) ∧ w.cell? ⟨(a.add (k * 4)).block, (a.add (k * 4)).off + 2, none⟩ = some (.string (bs p.holes)) ∧ w.cell? ⟨(a.add (k * 4)).block, (a.add (k * 4)).off + 3, none⟩ = some (.int .u64 p.id) ∧ By w p.bytes ba bc := by
  obtain ⟨ba, bc, h1, h2⟩ := h.bytes
  have e : ∀ j, 0 < j → (a.add (k * 4)).add j = ⟨(a.add (k * 4)).block, (a.add (k * 4)).off + j, none⟩ := fun j hj => by
    generalize a.add (k * 4) = b
    unfold Addr.add
    rw [if_neg (by omega)]
  exact ⟨ba, bc, h.kind, by rw [← e 1 (by omega)]; exact h1, by rw [← e 2 (by omega)]; exact h.holes, by rw [← e 3 (by omega)]; exact h.id, h2⟩

/-- Bytes copied into new memory. -/
theorem copy_bytes (W : World) (hsz : Nat) (hszW : W.heap.size = hsz) (l : List Int) (a : Option Addr) (c : Nat) (h : By W l a c) (hl : l.length ≤ 1000000) :
    ∃ v w', (Builtin.append_ #[23, 23] 23 #[.slice (some ⟨hsz, 0, none⟩) 0 0, .slice a l.length c]).run Tryz.prog (W.alloc (.cells #[] 5)) = .ok v w' ∧
      ∃ g c', v = .slice (some ⟨g, 0, none⟩) l.length c' ∧ By w' l (some ⟨g, 0, none⟩) c' ∧ W.heap.size ≤ g ∧ Tch [] W w' := by
  subst hszW
  obtain ⟨i0, hi, hz0, hz1, hz2⟩ := info_parts (show (Tryz.prog.info? 5).map (fun i => (i.zero, i.size, i.bytes)) = some (some (.int .u8 0), 1, 1) by kernel_rfl)
  have hown := (Own.new (Tch.refl [] W) 5 1).row
  have t0 : Tch [] W (W.alloc (.cells #[] 5)) := (Tch.refl _ _).alloc _
  cases a with
  | none =>
    obtain ⟨rfl, rfl⟩ := h.nil rfl
    exact ⟨_, _, run_append_owned_none _ W.heap.size 23 23 5 i0 1 Tryz.underlying23 hi _ 0 [] hown, W.heap.size, 0, rfl, ⟨Nat.le_refl _, by simp, fun ad hd j hj => by simp at hj, by simp⟩, Nat.le_refl _, t0⟩
  | some ad =>
    obtain ⟨v', w', hrun, ho, hg, -, hloc⟩ := run_append_own_at (P := Tryz.prog) (W.alloc (.cells #[] 5)) W.heap.size 23 23 5 i0 (.int .u8 0) 1 1 Tryz.underlying23 hi hz0 hz1 hz2 rfl (by decide) _ 0 [] hown ad l.length c (l.map (.int .u8)) (by simp) (fun j u hu => by
        have hj : j < l.length := by
          have := (List.getElem?_eq_some_iff.1 hu).1
          simpa using this
        rw [t0.cell (by rw [add_block]; exact (h.cell ad rfl j hj).1) (by simp), (h.cell ad rfl j hj).2]
        simp only [List.getElem?_map] at hu
        rw [← hu]
        simp [List.getD, List.getElem?_eq_getElem hj]) (by intro u hu; simp only [List.mem_map] at hu; obtain ⟨x, -, rfl⟩ := hu; rfl) (by unfold maxLen; omega) (by omega) (by simp)
    rw [Nat.zero_add, List.nil_append] at ho
    have hb : ∃ g, v'.ownBlock = some g ∧ W.heap.size ≤ g := by
      rcases hloc with e | e
      · exact ⟨_, e, Nat.le_refl _⟩
      · exact ⟨_, e, by simp⟩
    obtain ⟨g, hg1, hg2⟩ := hb
    have hv : ∃ c', v' = .slice (some ⟨g, 0, none⟩) l.length c' ∧ l.length ≤ c' := by
      rcases ho.2 with ⟨e, -⟩ | ⟨g', cap, cur, e, -, -, hn, -⟩
      · rw [e] at hg1; simp [Value.ownBlock] at hg1
      · rw [e] at hg1; simp [Value.ownBlock] at hg1; subst hg1; exact ⟨cap, e, hn⟩
    obtain ⟨c', rfl, hc'⟩ := hv
    refine ⟨_, w', hrun, g, c', rfl, ⟨hc', by simp, fun ad' hd j hj => ?_, h.u8⟩, hg2, t0.grown hg (fun k hk hlt => by simp [Value.ownBlock] at hk; omega)⟩
    simp only [Option.some.injEq] at hd
    subst hd
    refine ⟨own_lt ho rfl, ?_⟩
    exact (own_cell ho (j := j) (u := .int .u8 (l.getD j 0)) (by simp [List.getD, List.getElem?_eq_getElem hj])).2

end Go.Proofs.YtcolffccbmpndaaGreatDoor
