/- What serves every law of this seat: rows, appends, answers of a law that leaves alone what was there. -/
import Derived.Test.YtdofgamahjmohaaOps
import Derived.ProofKit
import Derived.OpenShut
import Derived.ShutString
import Derived.ReadAgain
import Derived.Deep.Slices
import Derived.Deep.Fields
import Derived.ChangeSame
import Derived.Deep.CutBlock
import Derived.Deep.RegionHeld3
namespace Go.Proofs.Ytdofgamahjmohaa
open Go.ChangeShapes Go.WideShapes Go.ChangeAt Go.RowKit

/-- A pointer to the head of block b. -/
abbrev ptr (b : Nat) : Value := .pointer (some ⟨b, 0, none⟩)

theorem heap_get_alloc (w : World) (o : Obj) (k : Nat) : (w.alloc o).heap[k]? = if k = w.heap.size then some o else w.heap[k]? := by
  show (w.heap.push o)[k]? = _
  rw [Array.getElem?_push]

theorem box2 (w : World) (o o' : Obj) : ((w.alloc o).alloc o').heap[w.heap.size]? = some o ∧ ((w.alloc o).alloc o').heap[w.heap.size + 1]? = some o' := by
  refine ⟨?_, ?_⟩
  · rw [heap_get_alloc, if_neg (by simp), heap_get_alloc, if_pos rfl]
  · rw [heap_get_alloc, if_pos (by simp)]

/-- Two blocks that hold different things are different. -/
theorem obj_ne {w : World} {a b : Nat} {o o' : Obj} (ha : w.heap[a]? = some o) (hb : w.heap[b]? = some o') (h : o ≠ o') : a ≠ b := fun e => by
  subst e; rw [ha] at hb; simp at hb; exact h hb

theorem cells_ne {w : World} {a b : Nat} {c c' : Array Value} {t t' : TypeId} {fr fr' : Nat × Nat} (ha : w.heap[a]? = some (.cells c t fr)) (hb : w.heap[b]? = some (.cells c' t' fr')) (h : t ≠ t') : a ≠ b :=
  obj_ne ha hb (by simp; intro _ e; exact absurd e h)

theorem own_lt {w : World} {b : Nat} {e : TypeId} {size : Nat} {v : Value} {n : Nat} {xs : List Value} (h : w.ownsRow b e size v n xs) {k : Nat} (hk : v.ownBlock = some k) : k < w.heap.size := by
  obtain ⟨cur, hc⟩ := ownsRow_block h hk
  exact lt_of_obj hc

theorem row_new {w : World} (t : TypeId) (size : Nat) : (w.alloc (.cells #[] t)).ownsRow 0 t size (.slice (some ⟨w.heap.size, 0, none⟩) 0 0) 0 [] := by
  have := World.ownsRow_lit (base := 0) (e := t) (size := size) w #[] 0 (Nat.zero_le _) (Nat.zero_le _) (by simp)
  simpa using this

theorem wpList_append_run {P : Program} {w : World} {ops : Array Oper} {rest : List Oper} {o : Oper} {a : Act} {Q : Exit → Act → World → Prop} (hg : o.guard = none) (s x : Operand) (t : TypeId)
    (hop : o.op = Op.call { callee := .builtin .append, args := #[s, x], argTypes := #[t, t] }) (vs vx : Value) (hs : a.eval s = vs) (hx : a.eval x = vx) (R : Value → World → Prop)
    (hrun : ∃ v w', (Builtin.append_ #[t, t] o.type #[vs, vx]).run P w = .ok v w' ∧ R v w') (hK : ∀ v w', R v w' → wpList P ops Q rest (a.put o.dst v) w') : wpList P ops Q (o :: rest) a w := by
  obtain ⟨v, w', hr, hR⟩ := hrun
  refine wpList_plain hg fun K' hK' => ?_
  unfold Oper.wp execOp
  simp only [hop, resolve, invoke, builtin, Sem.run_bind, Sem.run_pure, Result.andThen_ok, List.map_toArray, List.map_cons, List.map_nil, hs, hx, hr]
  exact hK' _ _ (hK v w' hR)

theorem add_block (a : Addr) (j : Nat) : (a.add j).block = a.block := by unfold Addr.add; split <;> rfl

theorem take_getD {α : Type} (l : List α) (d : α) {k : Nat} (hk : k < l.length) : l.take (k + 1) = l.take k ++ [l.getD k d] := by
  rw [List.take_succ_eq_append_getElem hk]; simp [List.getD, List.getElem?_eq_getElem hk]

theorem flat_at {α β : Type} (f : α → List β) (sz : Nat) (hsz : ∀ x, (f x).length = sz) : ∀ (l : List α) (i j : Nat) (x : α), l[i]? = some x → j < sz → (l.flatMap f)[i * sz + j]? = (f x)[j]? := by
  intro l
  induction l with
  | nil => intro i j x h; simp at h
  | cons a l ih =>
    intro i j x h hj
    cases i with
    | zero =>
      have h : a = x := by simpa using h
      subst h
      rw [List.flatMap_cons, List.getElem?_append_left (by rw [hsz]; omega)]
      simp
    | succ i =>
      have h : l[i]? = some x := by simpa using h
      rw [List.flatMap_cons, List.getElem?_append_right (by rw [hsz, Nat.succ_mul]; omega), hsz]
      have e : (i + 1) * sz + j - sz = i * sz + j := by rw [Nat.succ_mul]; omega
      rw [e]; exact ih i j x h hj

theorem wf_u64 {a : Int} (h : (Lit.int .u64 a).wf = true) : 0 ≤ a ∧ a ≤ 18446744073709551615 := by
  simp only [Lit.wf, Bool.and_eq_true, decide_eq_true_eq] at h
  exact ⟨h.1, h.2⟩

section
variable {P : Program} {w : World} {ops : Array Oper} {rest : List Oper} {o : Oper} {a : Act} {Q : Exit → Act → World → Prop}
theorem wpList_make_run (hg : o.guard = none) (n c : Operand) (t : TypeId) (hop : o.op = Op.makeSlice t n c) (vn vc : Value) (hn : a.eval n = vn) (hc : a.eval c = vc) (R : Value → World → Prop)
    (hrun : ∃ v w', (Instr.makeSlice t vn vc).run P w = .ok v w' ∧ R v w') (hK : ∀ v w', R v w' → wpList P ops Q rest (a.put o.dst v) w') : wpList P ops Q (o :: rest) a w := by
  obtain ⟨v, w', hr, hR⟩ := hrun
  refine wpList_plain hg fun K' hK' => ?_
  unfold Oper.wp
  simp [execOp, hop, hn, hc, hr, Result.andThen]
  exact hK' _ _ (hK v w' hR)
end

/-- The row's answer where the call has left alone what was there. -/
theorem post_of_tch {H : Type} {enc : TypeId × Value → H} {P : Program} {f : Func} {s : ChangeSpec} {apart fresh handsOn again : Bool} {W W' : World} {args : Array Value} {v : Value} {ds gs : List (DataW H)} {before pa pv : List MemPlace}
    (hW : DataW.Whole enc P f.params.toList s.vars apart W args.toList ds gs before)
    (hres : ∀ (b : Nat) (sp : Nat → Bool) (hd : Bool), DataW.TrodAll enc P W' b sp hd f.resultTypes.toList (v.resultList f.resultTypes.size) (s.fn H (ds ++ gs)).results [])
    (hargs : ∀ sp : Nat → Bool, (∀ p ∈ before, sp p.block = true) → DataW.TrodAll enc P W' 0 sp true f.params.toList args.toList (s.fn H (ds ++ gs)).args pa)
    (hvars : ∀ sp : Nat → Bool, (∀ p ∈ before, sp p.block = true) → DataW.TrodVars enc P W' sp s.vars (s.fn H (ds ++ gs)).vars pv)
    (hps : before = pa ++ pv) (ht : Tch [] W W')
    (hok : ∀ (j : Nat) (t : TypeId) (r : Value), f.resultTypes[j]? = some t → (v.resultList f.resultTypes.size)[j]? = some r → Value.okWide P W' .any 0 t r) :
    s.post enc P f apart fresh handsOn again W args v W' := by
  have hold : ∀ p ∈ before, (fun b => decide (b < W.heap.size)) p.block = true := fun p hp => by simpa using hW.lt p hp
  have hlt := hW.lt
  refine ⟨ds, gs, before, [], pa, pv, hW, hres _ _ _, hargs _ hold, hvars _ hold, World.keptBut_mono (fun p hp => ⟨hp, ?_⟩) (ht.frame (by simp) (· ∈ before)), fun _ => ?_⟩
  · rw [hps, List.mem_append] at hp
    exact Or.inr hp
  · obtain ⟨_, _, _, _, _, hz, hn⟩ := hW
    refine ⟨hok, _, _, ([] ++ pa) ++ pv, ⟨[] ++ pa, pv, ChangeShapes.trodAll_append (hargs _ (fun _ _ => rfl)) (hres _ _ _), hvars _ (fun _ _ => rfl), rfl, ?_, ?_⟩, ?_⟩
    · intro b off hp
      have hp' : MemPlace.cell b off ∈ before := by rw [hps]; simpa using hp
      rw [ht.frozen (hlt _ hp') (by simp)]
      exact hz b off hp'
    · intro ha
      have := hn ha
      rw [hps] at this
      simpa using this
    · intro p hp _
      rw [hps]
      simpa using hp

open Go.Deep
section
variable {H : Type} {enc : TypeId × Value → H} {P : Program} {W W' : World} {base : Nat} {spare : Nat → Bool} {held : Bool}

theorem same_of_tch (t : Tch [] W W') {p : MemPlace} (h : p.block < W.heap.size) : W.sameAt W' p := by
  cases p with
  | cell b off => exact t.cell (p := ⟨b, off, none⟩) h (by simp)
  | map b => exact t.block b h (by simp)

theorem trodAll_carry : ∀ {ts : List TypeId} {vs : List Value} {ds : List (DataW H)} {ps : List MemPlace}, DataW.TrodAll enc P W base spare held ts vs ds ps → (∀ p ∈ ps, W.sameAt W' p) → DataW.TrodAll enc P W' base spare held ts vs ds ps
  | [], [], [], _, h, _ => h
  | _ :: _, _ :: _, _ :: _, _, ⟨p, q, ⟨n, h1⟩, h2, e⟩, hs => ⟨p, q, ⟨n, DataW.trod_carry n _ _ _ h1 (fun x hx => hs x (by rw [e]; exact List.mem_append_left _ hx))⟩, trodAll_carry h2 (fun x hx => hs x (by rw [e]; exact List.mem_append_right _ hx)), e⟩

/-- The arguments, read again. -/
theorem args_again (K : Kids P (· < P.types.size)) (hz : ∀ t e, t < P.types.size → P.underlying t = some (.slice e) → 0 < P.cellsOf e) {ts : List TypeId} {vs : List Value} {ds : List (DataW H)} {ps : List MemPlace} (hT : ∀ t ∈ ts, t < P.types.size)
    (h : DataW.TrodAll enc P W base (fun _ => true) true ts vs ds ps) (hlt : ∀ p ∈ ps, p.block < W.heap.size) (t : Tch [] W W') (sp : Nat → Bool) (hs : ∀ p ∈ ps, sp p.block = true) : DataW.TrodAll enc P W' base sp true ts vs ds ps :=
  (trodAll_carry h (fun p hp => same_of_tch t (hlt p hp))).respare K hz hT hs

/-- The row of a law that returns true and leaves alone what was there. -/
theorem post_law {f : Func} {s : ChangeSpec} {apart fresh handsOn again : Bool} {args : Array Value} {ds : List (DataW H)} {before : List MemPlace} (hvars : s.vars = []) (bt : TypeId) (hbt : P.underlying bt = some .bool) (hres : f.resultTypes = #[bt])
    (hfn : s.fn H ds = { results := [.lit (.bool true)], args := ds })
    (K : Kids P (· < P.types.size)) (hz : ∀ t e, t < P.types.size → P.underlying t = some (.slice e) → 0 < P.cellsOf e) (hT : ∀ t ∈ f.params.toList, t < P.types.size)
    (hW : DataW.Whole enc P f.params.toList s.vars apart W args.toList ds [] before) (hA : DataW.TrodAll enc P W 0 (fun _ => true) true f.params.toList args.toList ds before) (t : Tch [] W W') :
    s.post enc P f apart fresh handsOn again W args (.bool true) W' := by
  have hlt := hW.lt
  have e : s.fn H (ds ++ []) = { results := [.lit (.bool true)], args := ds } := by rw [List.append_nil]; exact hfn
  refine post_of_tch (pa := before) (pv := []) hW (fun b sp hd => ?_) (fun sp hs => ?_) (fun sp hs => ?_) (by simp) t ?_
  · rw [e, hres]
    exact trodAll_cons_mk (shut_bool hbt true) trodAll_mk0
  · rw [e]
    exact args_again K hz hT hA hlt t sp hs
  · rw [e, hvars]
    rfl
  · exact ok_one hres rfl (okWide_bool_mk hbt true)
end


theorem Try.kids : Kids Try.prog (· < Try.prog.types.size) := kids_rows (by kernel_rfl) (by kernel_rfl)
theorem Try.full : ∀ t e, t < Try.prog.types.size → Try.prog.underlying t = some (.slice e) → 0 < Try.prog.cellsOf e := slices_full_of _ (by kernel_rfl)

end Go.Proofs.Ytdofgamahjmohaa
