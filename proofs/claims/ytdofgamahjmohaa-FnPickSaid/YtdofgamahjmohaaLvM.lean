/- impl.made: the tables of the package. -/
import Derived.Test.YtdofgamahjmohaaLvD
import Derived.Test.YtdofgamahjmohaaKeyZ
namespace Go.Proofs.Ytdofgamahjmohaa
open Go.RowKit
set_option maxRecDepth 100000

theorem row_keep {w w' : World} {S : List Nat} {b : Nat} {e e' : TypeId} {sz : Nat} {v : Value} {n : Nat} {xs : List Value} (h : w.ownsRow b e sz v n xs) (t : Tch S w w') (hS : ∀ g ∈ S, ∃ cur fr, w.heap[g]? = some (.cells cur e' fr)) (hne : e ≠ e') : w'.ownsRow b e sz v n xs :=
  t.own h (fun g hg hm => by
    obtain ⟨cur, h1⟩ := ownsRow_block h hg
    obtain ⟨cur', fr, h2⟩ := hS g hm
    exact absurd rfl (cells_ne h1 h2 hne))

theorem own_blocks {w : World} {b : Nat} {e : TypeId} {sz : Nat} {v : Value} {n : Nat} {xs : List Value} (h : w.ownsRow b e sz v n xs) : ∀ g ∈ v.ownBlock.toList, ∃ cur fr, w.heap[g]? = some (.cells cur e fr) := fun g hg => by
  obtain ⟨cur, h1⟩ := ownsRow_block h (by simpa [Option.mem_toList] using hg)
  exact ⟨cur, _, h1⟩

theorem obj_keep {w w' : World} {b : Nat} {c : Array Value} {e e' : TypeId} {fr : Nat × Nat} {base sz n : Nat} {v : Value} {xs : List Value} (hb : w.heap[b]? = some (.cells c e fr)) (t : Tch v.ownBlock.toList w w') (ho : w.ownsRow base e' sz v n xs) (hne : e ≠ e') : w'.heap[b]? = some (.cells c e fr) :=
  t.obj hb (fun hm => by
    obtain ⟨cur, fr', h2⟩ := own_blocks ho b hm
    exact absurd rfl (cells_ne hb h2 hne))

/-- A table of the package: its cells, the keys at blocks g1 and g2. -/
def ptL (p : Tb × Nat × Nat) : List Value := [.int .u64 p.1.num, keyV p.2.1 p.1.k1.key.length (p.1.k1.key.length + 8), keyV p.2.2 p.1.k2.key.length (p.1.k2.key.length + 8), .int .i64 p.1.bytes, .int .u64 p.1.ver, .int .u32 p.1.stale, .int .i64 p.1.age]
def KeyRow (w : World) (k : Kv) (g : Nat) : Prop := RowB w g (k.key.length + 8) (k.key.length + 8) (kb k)

/-- A row of tables of the package, with their keys. -/
structure PtRow (w : World) (ps : List (Tb × Nat × Nat)) (a : Option Addr) (n c : Nat) : Prop where
  row : w.ownsRow 0 94 7 (.slice a n c) n (ps.flatMap ptL)
  len : ps.length = n
  k1 : ∀ p ∈ ps, KeyRow w p.1.k1 p.2.1
  k2 : ∀ p ∈ ps, KeyRow w p.1.k2 p.2.2

theorem PtRow.keep {w w' : World} {ps : List (Tb × Nat × Nat)} {a : Option Addr} {n c : Nat} {e' : TypeId} {S : List Nat} (h : PtRow w ps a n c) (t : Tch S w w') (hS : ∀ g ∈ S, ∃ cur fr, w.heap[g]? = some (.cells cur e' fr)) (h1 : 94 ≠ e') (h2 : 5 ≠ e') : PtRow w' ps a n c :=
  ⟨row_keep h.row t hS h1, h.len, fun p hp => row_keep (h.k1 p hp) t hS h2, fun p hp => row_keep (h.k2 p hp) t hS h2⟩
theorem PtRow.tch {w w' : World} {ps : List (Tb × Nat × Nat)} {a : Option Addr} {n c : Nat} (h : PtRow w ps a n c) (t : Tch [] w w') : PtRow w' ps a n c :=
  ⟨t.own h.row (by simp), h.len, fun p hp => t.own (h.k1 p hp) (by simp), fun p hp => t.own (h.k2 p hp) (by simp)⟩

/-- append, one step of a region that draws. -/
theorem step_app {ops : Array Oper} {o : Oper} {a : Act} {w : World} {K : Act → World → Prop} {Q : Exit → Act → World → Prop} {E : Prop}
    (hg : o.guard = none) (s x : Operand) {t e : TypeId} (hop : o.op = Op.call { callee := Callee.builtin Builtin.append, args := #[s, x], argTypes := #[t, t] })
    {i0 : TypeInfo} {z : Value} {sz bytes : Nat} (u : Try.prog.underlying t = some (.slice e)) (hi : Try.prog.info? e = some i0) (hz : i0.zero = some z) (hsz : i0.size = sz) (hby : i0.bytes = bytes) (hzs : z.cells.size = sz) (hpos : 0 < sz) (hb : bytes ≤ 1000)
    (base : Nat) (v : Value) (n : Nat) (xs : List Value) (new : Array Value) (g : Nat) (hs : a.eval s = v) (hx : a.eval x = .slice (some ⟨g, 0, none⟩) 1 1) (hn : n ≤ 100000000) (hsn : new.size = sz) (h1 : ∀ y ∈ new.toList, y.oneCell' = true)
    (h : w.ownsRow base e sz v n xs) (hnew : w.heap[g]? = some (.cells new e (0, 0))) (hbase : base ≤ w.heap.size)
    (hK : ∀ g' c' w', w'.ownsRow base e sz (.slice (some ⟨g', 0, none⟩) (n + 1) c') (n + 1) (xs ++ new.toList) → Tch v.ownBlock.toList w w' → (some g' = v.ownBlock ∨ w.heap.size ≤ g') → K (a.put o.dst (.slice (some ⟨g', 0, none⟩) (n + 1) c')) w') :
    if Region.wanted o (yielded ops a.tmps) = true then Oper.wp Try.prog o a w K Q else E := by
  have hb2 : (n + 1) * bytes ≤ 140737488355328 := Nat.le_trans (Nat.mul_le_mul (show n + 1 ≤ 100000001 by omega) hb) (by omega)
  have hls : new.toList.length = sz := by rw [Array.length_toList]; exact hsn
  refine step_append_own hg s x t hop base e i0 z sz bytes u hi hz hsz hby hzs hpos v n xs hs h ⟨g, 0, none⟩ 1 1 new.toList hx (by rw [hls]; omega) (fun j y hy => ?_) h1 (by unfold maxLen; omega) hb2 hbase ?_
  · have e1 : (⟨g, 0, none⟩ : Addr).add j = ⟨g, j, none⟩ := by unfold Addr.add; split <;> simp_all
    rw [e1, cell_of_row _ _ j new e (0, 0) hnew]
    simpa using hy
  · intro v' w' ho hgr hloc
    obtain ⟨g', c', rfl, -⟩ := ownsRow_value ho (by omega)
    refine hK g' c' w' ho ⟨hgr.os, hgr.output, hgr.size, fun k hk hk2 => hgr.block k hk (by simpa [Option.mem_toList, eq_comm] using hk2)⟩ ?_
    rcases hloc with hl | hl
    · exact .inl hl
    · have hl : g' = w.heap.size := by simpa [Value.ownBlock] using hl
      exact .inr (by omega)

theorem Try.infoPt : (Try.prog.info? 94).map (fun i => (i.zero, i.size, i.bytes)) = some (some (.agg #[.int .u64 0, .slice none 0 0, .slice none 0 0, .int .i64 0, .int .u64 0, .int .u32 0, .int .i64 0]), 7, 88) := by kernel_rfl
theorem Try.infoPts : (Try.prog.info? 92).map (fun i => (i.zero, i.size, i.bytes)) = some (some (.slice none 0 0), 1, 24) := by kernel_rfl

end Go.Proofs.Ytdofgamahjmohaa
