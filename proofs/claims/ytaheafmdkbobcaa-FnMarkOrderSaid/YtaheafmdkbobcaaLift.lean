/- Behind a call that leaves alone what was there, the arguments read as they did, whatever their types; steps opened. -/
import Derived.Test.YtaheafmdkbobcaaLit
import Derived.ReadAgain
import Derived.Deep.Slices
import Derived.Deep.Fields
import Derived.ChangeSame
namespace Go.Proofs.Ytaheafmdkbobcaa
open Go.ChangeShapes Go.WideShapes Go.Deep Go.RowKit

section
variable {H : Type} {enc : TypeId × Value → H} {P : Program} {W W' : World} {base : Nat} {spare : Nat → Bool} {held : Bool}

theorem same_of_tch (t : Tch [] W W') {p : MemPlace} (h : p.block < W.heap.size) : W.sameAt W' p := by
  cases p with
  | cell b off => exact t.cell (p := ⟨b, off, none⟩) h (by simp)
  | map b => exact t.block b h (by simp)

theorem trodAll_carry : ∀ {ts : List TypeId} {vs : List Value} {ds : List (DataW H)} {ps : List MemPlace}, DataW.TrodAll enc P W base spare held ts vs ds ps → (∀ p ∈ ps, W.sameAt W' p) → DataW.TrodAll enc P W' base spare held ts vs ds ps
  | [], [], [], _, h, _ => h
  | _ :: _, _ :: _, _ :: _, _, ⟨p, q, ⟨n, h1⟩, h2, e⟩, hs => ⟨p, q, ⟨n, DataW.trod_carry n _ _ _ h1 (fun x hx => hs x (by rw [e]; exact List.mem_append_left _ hx))⟩, trodAll_carry h2 (fun x hx => hs x (by rw [e]; exact List.mem_append_right _ hx)), e⟩

/-- The arguments, read again. -/
theorem args_again (K : Kids P (· < P.types.size)) (hz : ∀ t e, t < P.types.size → P.underlying t = some (.slice e) → 0 < P.cellsOf e) {ts : List TypeId} {vs : List Value} {ds : List (DataW H)} {ps : List MemPlace} (hT : ∀ t ∈ ts, t < P.types.size)
    (h : DataW.TrodAll enc P W base (fun _ => true) true ts vs ds ps) (hlt : ∀ p ∈ ps, p.block < W.heap.size) (t : Tch [] W W') (sp : Nat → Bool) (hs : ∀ p ∈ ps, sp p.block = true) : DataW.TrodAll enc P W' base sp true ts vs ds ps :=
  (trodAll_carry h (fun p hp => same_of_tch t (hlt p hp))).respare K hz hT hs

/-- The row of a law that returns true and leaves alone what was there. -/
theorem post_law {f : Func} {s : ChangeSpec} {apart fresh handsOn again : Bool} {args : Array Value} {ds : List (DataW H)} {before : List MemPlace} (hvars : s.vars = []) (bt : TypeId) (hbt : P.underlying bt = some .bool) (hres : f.resultTypes = #[bt])
    (hfn : s.fn H ds = { results := [.lit (.bool true)], args := ds })
    (K : Kids P (· < P.types.size)) (hz : ∀ t e, t < P.types.size → P.underlying t = some (.slice e) → 0 < P.cellsOf e) (hT : ∀ t ∈ f.params.toList, t < P.types.size)
    (hW : DataW.Whole enc P f.params.toList s.vars apart W args.toList ds [] before) (hA : DataW.TrodAll enc P W 0 (fun _ => true) true f.params.toList args.toList ds before) (t : Tch [] W W') :
    s.post enc P f apart fresh handsOn again W args (.bool true) W' := by
  have hlt := hW.lt
  have e : s.fn H (ds ++ []) = { results := [.lit (.bool true)], args := ds } := by rw [List.append_nil]; exact hfn
  refine post_of_tch (pa := before) (pv := []) hW (fun b sp hd => ?_) (fun sp hs => ?_) (fun sp hs => ?_) (by simp) t ?_
  · rw [e, hres]
    exact trodAll_cons_mk (shut_bool hbt true) trodAll_mk0
  · rw [e]
    exact args_again K hz hT hA hlt t sp hs
  · rw [e, hvars]
    rfl
  · exact ok_one hres rfl (okWide_bool_mk hbt true)
end

theorem Try.kids : Kids Try.prog (· < Try.prog.types.size) := kids_rows (by kernel_rfl) (by kernel_rfl)
theorem Try.full : ∀ t e, t < Try.prog.types.size → Try.prog.underlying t = some (.slice e) → 0 < Try.prog.cellsOf e := slices_full_of _ (by kernel_rfl)

end Go.Proofs.Ytaheafmdkbobcaa
