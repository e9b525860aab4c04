/- Bytes and bounds that came in, opened. -/
import Derived.Test.YtdofgamahjmohaaKeyW
import Derived.Test.YtdofgamahjmohaaRows
namespace Go.Proofs.Ytdofgamahjmohaa
open Go.ChangeShapes Go.WideShapes Go.Deep Go.RowKit
set_option maxRecDepth 100000

theorem Try.cellsU8 : Try.prog.cellsOf 5 = 1 := by kernel_rfl
theorem Try.cellsBool : Try.prog.cellsOf 4 = 1 := by kernel_rfl
theorem Try.cellsU64 : Try.prog.cellsOf 23 = 1 := by kernel_rfl
theorem Try.cellsBytes : Try.prog.cellsOf 22 = 1 := by kernel_rfl
theorem Try.cellsBound : Try.prog.cellsOf 25 = 3 := by kernel_rfl

theorem wf_u8 {a : Int} (h : (Lit.int .u8 a).wf = true) : 0 ≤ a ∧ a < 256 := by
  simp only [Lit.wf, Bool.and_eq_true, decide_eq_true_eq] at h
  exact ⟨h.1, Int.lt_of_le_of_lt h.2 (by decide)⟩

section
variable {H : Type} {enc : TypeId × Value → H} {w : World} {fuel : Nat} {cs : List Value} {x : DataW H × List MemPlace}

/-- Bytes that came in. -/
theorem open_bytes (h : DataW.trod enc Try.prog w 0 (fun _ => true) true fuel 22 cs = some x) : ∃ (a : Option Addr) (l : List Int) (c : Nat), cs = [.slice a l.length c] ∧ By w l a c := by
  rcases open_slice1 Try.underlying22 Try.cellsU8 h with ⟨rfl, -⟩ | ⟨ad, len, cap, m, n, V, D, Pl, rfl, hb, hl, hm, hmm, -, hi⟩
  · exact ⟨none, [], 0, rfl, by simp, fun _ => ⟨rfl, rfl⟩, fun ad hd => by simp at hd, by simp⟩
  · simp only [if_true] at hmm
    have one : ∀ j, j < len → ∃ z : Int, w.cell? (ad.add j) = some (.int .u8 z) ∧ 0 ≤ z ∧ z < 256 := by
      intro j hj
      obtain ⟨h1, h2⟩ := hi j (by omega)
      obtain ⟨z, e, -, hw⟩ := DataW.trod_int Try.underlying5 h2
      simp only [List.cons.injEq, and_true] at e
      have hz := wf_u8 hw
      exact ⟨z, by rw [h1, e], hz.1, hz.2⟩
    obtain ⟨f, hf⟩ := choose_lt one
    have hlen : ((List.range len).map f).length = len := by simp
    refine ⟨some ad, (List.range len).map f, cap, by rw [hlen], by rw [hlen]; exact hl, by simp, fun a ha j hj => ?_, fun z hz => ?_⟩
    · simp only [Option.some.injEq] at ha
      subst ha
      rw [hlen] at hj
      have e : ((List.range len).map f).getD j 0 = f j := by simp [List.getD, hj]
      rw [e]
      have hc := (hf j hj).1
      refine ⟨?_, hc⟩
      have := World.block_lt_of_cell? w _ hc
      rw [add_block] at this
      exact this
    · obtain ⟨j, hj, rfl⟩ := List.mem_map.1 hz
      exact (hf j (List.mem_range.1 hj)).2

/-- A bound's cells. -/
theorem open_bound_cells (h : DataW.trod enc Try.prog w 0 (fun _ => true) true fuel 25 cs = some x) : ∃ (t : Bool) (a : Option Addr) (k : Kv) (c : Nat), cs = [.bool t, .slice a k.key.length c, .int .u64 k.ver] ∧ By w k.key a c ∧ okV k.ver := by
  obtain ⟨xs, n', -, -, hcl0, hyl, hf⟩ := DataW.trod_struct Try.underlying25 h
  rw [Try.cellsBound] at hcl0
  match cs, hcl0 with
  | [c0, c1, c2], _ =>
    match xs, hyl with
    | [y0, y1, y2], _ =>
      have h0 : DataW.trod enc Try.prog w 0 (fun _ => true) true n' 4 [c0] = some y0 := by have := hf 0 ⟨_, 4, 0, _, _, _, _⟩ rfl; simp only [Try.cellsBool] at this; exact this
      have h1 : DataW.trod enc Try.prog w 0 (fun _ => true) true n' 22 [c1] = some y1 := by have := hf 1 ⟨_, 22, 1, _, _, _, _⟩ rfl; simp only [Try.cellsBytes] at this; exact this
      have h2 : DataW.trod enc Try.prog w 0 (fun _ => true) true n' 23 [c2] = some y2 := by have := hf 2 ⟨_, 23, 2, _, _, _, _⟩ rfl; simp only [Try.cellsU64] at this; exact this
      obtain ⟨t, e0, -⟩ := DataW.trod_bool Try.underlying4 h0
      obtain ⟨a, l, c, e1, hb⟩ := open_bytes h1
      obtain ⟨v, e2, -, hw⟩ := DataW.trod_int Try.underlying23 h2
      simp only [List.cons.injEq, and_true] at e0 e1 e2
      subst e0; subst e1; subst e2
      have ho : okV v := by unfold okV; exact wf_u64 hw
      exact ⟨t, a, ⟨l, v⟩, c, rfl, hb, ho⟩
end

/-- A bound that came in by value. -/
theorem open_bound {H : Type} {enc : TypeId × Value → H} {w : World} {r : Reach} {b0 : Nat} {v : Value} {d : DataW H} {p : List MemPlace} (hv : Value.okWide Try.prog w r b0 25 v) (h : DataW.Trod enc Try.prog w 0 (fun _ => true) true 25 v d p) :
    ∃ (t : Bool) (a : Option Addr) (k : Kv) (c : Nat), v = bndV t a k.key.length c k.ver ∧ By w k.key a c ∧ okV k.ver := by
  obtain ⟨cs, rfl, -⟩ := okWide_struct Try.underlying25 hv
  obtain ⟨fuel, hf⟩ := h
  obtain ⟨t, a, k, c, e, hb, ho⟩ := open_bound_cells hf
  refine ⟨t, a, k, c, ?_, hb, ho⟩
  have e : cs.toList = [.bool t, .slice a k.key.length c, .int .u64 k.ver] := e
  show Value.agg cs = Value.agg _
  congr 1
  exact Array.ext' e

end Go.Proofs.Ytdofgamahjmohaa
