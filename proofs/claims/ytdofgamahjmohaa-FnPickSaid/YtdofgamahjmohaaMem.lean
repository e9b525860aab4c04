/- Words on memory: which blocks a call may have written; a block known whole. -/
import Derived.Test.YtdofgamahjmohaaRows
import Derived.WalkKit
import Derived.WalkSpells
import Derived.WalkLawsBesides
import Derived.Maps.OwnOps
import Derived.Maps.OwnSet
import Derived.Maps.RangeWalk
import Derived.Maps.AppendAt
import Derived.Lib.Hide
import Derived.Deep.RegionLaw
import Derived.Deep.QuietTactic
import Derived.BigQuiet
namespace Go.Proofs.Ytdofgamahjmohaa
open Go.RowKit

/-- Of what was there only blocks of S may have been written; no block has gone. -/
structure Tch (S : List Nat) (w w' : World) : Prop where
  os : w'.os = w.os
  output : w'.output = w.output
  size : w.heap.size ≤ w'.heap.size
  block : ∀ k, k < w.heap.size → k ∉ S → w'.heap[k]? = w.heap[k]?

theorem Tch.refl (S : List Nat) (w : World) : Tch S w w := ⟨rfl, rfl, Nat.le_refl _, fun _ _ _ => rfl⟩
theorem Tch.trans {S : List Nat} {a b c : World} (h : Tch S a b) (k : Tch S b c) : Tch S a c :=
  ⟨k.os.trans h.os, k.output.trans h.output, Nat.le_trans h.size k.size, fun i hi hs => (k.block i (Nat.lt_of_lt_of_le hi h.size) hs).trans (h.block i hi hs)⟩
theorem Tch.mono {S T : List Nat} {a b : World} (h : Tch S a b) (hs : ∀ k, k < a.heap.size → k ∈ S → k ∈ T) : Tch T a b :=
  ⟨h.os, h.output, h.size, fun i hi ht => h.block i hi (fun s => ht (hs i hi s))⟩
/-- The second step may write whatever is new since the first world. -/
theorem Tch.then {S T : List Nat} {a b c : World} (h : Tch S a b) (k : Tch T b c) (hs : ∀ i, i < a.heap.size → i ∈ T → i ∈ S) : Tch S a c :=
  ⟨k.os.trans h.os, k.output.trans h.output, Nat.le_trans h.size k.size,
    fun i hi ht => (k.block i (Nat.lt_of_lt_of_le hi h.size) (fun s => ht (hs i hi s))).trans (h.block i hi ht)⟩
theorem Tch.drewN {S : List Nat} {a b : World} (h : Tch S a b) (n : Nat) : Tch S a (b.drewN n) := ⟨h.os, h.output, h.size, h.block⟩
theorem Tch.drew {S : List Nat} {a b : World} (h : Tch S a b) : Tch S a b.drew := ⟨h.os, h.output, h.size, h.block⟩
theorem Tch.alloc {S : List Nat} {a b : World} (h : Tch S a b) (o : Obj) : Tch S a (b.alloc o) :=
  h.trans ⟨rfl, rfl, by simp, fun k hk _ => Below.heap_alloc _ _ _ hk⟩
theorem Tch.setCell {S : List Nat} {a b : World} (h : Tch S a b) {p : Addr} (hp : p.block < a.heap.size → p.block ∈ S) (u : Value) : Tch S a (b.setCell p u) :=
  h.then (T := [p.block]) ⟨rfl, rfl, by simp [World.setCell], fun k hk hne => Below.heap_setCell _ _ _ _ (by simpa using hne)⟩ (fun i hi e => by have e := List.mem_singleton.1 e; subst e; exact hp hi)
theorem Tch.grown {S : List Nat} {a b c : World} {row : Option Nat} (h : Tch S a b) (hg : b.grownBy c row) (hr : ∀ k, row = some k → k < a.heap.size → k ∈ S) : Tch S a c :=
  h.then (T := row.toList) ⟨hg.os, hg.output, hg.size, fun k hk hne => hg.block k hk (fun e => hne (by rw [← e]; simp))⟩ (fun i hi e => hr i (by cases row <;> simp_all) hi)
theorem Tch.alike {S : List Nat} {a b c : World} (h : Tch S a b) (hw : c.Alike b) : Tch S a c := by
  obtain ⟨h1, h2, h3⟩ := hw
  exact ⟨by rw [h2]; exact h.os, by rw [h3]; exact h.output, by rw [h1]; exact h.size, fun k hk hs => by rw [h1]; exact h.block k hk hs⟩
theorem Tch.frame {S : List Nat} {W w' : World} (h : Tch S W w') (hs : ∀ k, k < W.heap.size → k ∉ S) (may : MemPlace → Prop) : W.keptBut w' may := by
  refine ⟨h.os, h.output, fun i hi => ?_⟩
  rw [h.block i hi (hs i hi)]
  split <;> simp_all
theorem Tch.cell {S : List Nat} {w w' : World} (h : Tch S w w') {p : Addr} (hl : p.block < w.heap.size) (hp : ¬ p.block ∈ S) : w'.cell? p = w.cell? p := World.cell?_of_block (w := w) (h.block p.block hl hp)
theorem Tch.frozen {S : List Nat} {w w' : World} (h : Tch S w w') {p : Addr} (hl : p.block < w.heap.size) (hp : ¬ p.block ∈ S) : w'.frozen? p = w.frozen? p := World.frozen?_of_block (w := w) (h.block p.block hl hp)
theorem Tch.cells {S : List Nat} {w w' : World} (h : Tch S w w') {b : Nat} {cur : Array Value} {e : TypeId} {fr : Nat × Nat} (hb : w.heap[b]? = some (.cells cur e fr)) (hp : b ∉ S) : w'.heap[b]? = some (.cells cur e fr) :=
  (h.block b (Array.getElem?_eq_some_iff.1 hb).1 hp).trans hb
theorem Tch.obj {S : List Nat} {w w' : World} (h : Tch S w w') {b : Nat} {o : Obj} (hb : w.heap[b]? = some o) (hp : b ∉ S) : w'.heap[b]? = some o :=
  (h.block b (Array.getElem?_eq_some_iff.1 hb).1 hp).trans hb
theorem lt_of_obj {w : World} {b : Nat} {o : Obj} (hb : w.heap[b]? = some o) : b < w.heap.size := (Array.getElem?_eq_some_iff.1 hb).1

section
variable {w w' : World} {base : Nat} {e : TypeId} {size : Nat} {v : Value} {n : Nat} {xs : List Value}
/-- An owned row stays owned where its block is not written. -/
theorem Tch.own {S : List Nat} (h : Tch S w w') (ho : w.ownsRow base e size v n xs) (hp : ∀ g, v.ownBlock = some g → g ∉ S) : w'.ownsRow base e size v n xs := by
  refine ⟨ho.1, ?_⟩
  rcases ho.2 with hn | ⟨g, cap, cur, rfl, hb, hgg, rest⟩
  · exact .inl hn
  · exact .inr ⟨g, cap, cur, rfl, hb, h.obj hgg (hp g rfl), rest⟩
theorem ownsRow_len (ho : w.ownsRow base e size v n xs) : xs.length = n * size := ho.1
/-- The value of a row that owns an element. -/
theorem ownsRow_value (ho : w.ownsRow base e size v n xs) (hn : 0 < n) : ∃ g cap, v = .slice (some ⟨g, 0, none⟩) n cap ∧ n ≤ cap ∧ g < w.heap.size := by
  rcases ho.2 with ⟨_, h⟩ | ⟨g, cap, cur, h, _, hgg, hc, _⟩
  · omega
  · exact ⟨g, cap, h, hc, (Array.getElem?_eq_some_iff.1 hgg).1⟩
theorem ownsRow_slice (ho : w.ownsRow base e size v n xs) : ∃ a cap, v = .slice a n cap := by
  rcases ho.2 with ⟨h, h'⟩ | ⟨g, cap, cur, h, _⟩
  · subst h'; exact ⟨_, _, h⟩
  · exact ⟨_, _, h⟩
/-- The row of an owned slice is a row of its element type: so no block that holds another type's cells or a map. -/
theorem ownsRow_block (ho : w.ownsRow base e size v n xs) {g : Nat} (hg : v.ownBlock = some g) : ∃ cur, w.heap[g]? = some (.cells cur e (0, 0)) := by
  rcases ho.2 with ⟨rfl, _⟩ | ⟨g', cap, cur, rfl, _, hgg, _⟩
  · simp [Value.ownBlock] at hg
  · simp [Value.ownBlock] at hg; subst hg; exact ⟨cur, hgg⟩
theorem ownsRow_base (ho : w.ownsRow base e size v n xs) : w.ownsRow 0 e size v n xs := by
  refine ⟨ho.1, ?_⟩
  rcases ho.2 with hn | ⟨g, cap, cur, h, _, r⟩
  · exact .inl hn
  · exact .inr ⟨g, cap, cur, h, Nat.zero_le _, r⟩
end

/-- append onto an owned slice, as one step of a region that draws. -/
theorem step_append_own {P : Program} {ops : Array Oper} {o : Oper} {a : Act} {w : World} {K : Act → World → Prop} {Q : Exit → Act → World → Prop} {E : Prop}
    (hg : o.guard = none) (s x : Operand) (t : TypeId) (hop : o.op = Op.call { callee := Callee.builtin Builtin.append, args := #[s, x], argTypes := #[t, t] })
    (base : Nat) (e : TypeId) (i : TypeInfo) (z : Value) (size bytes : Nat) (ht : P.underlying t = some (.slice e)) (hi : P.info? e = some i) (hz : i.zero = some z)
    (hsize : i.size = size) (hby : i.bytes = bytes) (hzs : z.cells.size = size) (hsz : 0 < size)
    (v : Value) (n : Nat) (xs : List Value) (hs : a.eval s = v) (hown : w.ownsRow base e size v n xs)
    (ad : Addr) (m c : Nat) (news : List Value) (hx : a.eval x = .slice (some ad) m c) (hl : news.length = m * size) (hnews : ∀ j u, news[j]? = some u → w.cell? (ad.add j) = some u) (h1 : ∀ u ∈ news, u.oneCell' = true)
    (h63 : n + m ≤ maxLen) (hbytes : (n + m) * bytes ≤ 140737488355328) (hbase : base ≤ w.heap.size)
    (hK : ∀ v' w', w'.ownsRow base e size v' (n + m) (xs ++ news) → w.grownBy w' v.ownBlock → (v'.ownBlock = v.ownBlock ∨ v'.ownBlock = some w.heap.size) → K (a.put o.dst v') w') :
    if Region.wanted o (yielded ops a.tmps) = true then Oper.wp P o a w K Q else E := by
  have hw : Region.wanted o (yielded ops a.tmps) = true := by simp [Region.wanted, hg]
  rw [if_pos hw]
  obtain ⟨v', w', hr, h2, h3, h4, h5⟩ := run_append_own_at (P := P) w base t o.type e i z size bytes ht hi hz hsize hby hzs hsz v n xs hown ad m c news hl hnews h1 h63 hbytes hbase
  unfold Oper.wp execOp
  simp only [hop, resolve, invoke, builtin, Sem.run_bind, Sem.run_pure, Result.andThen_ok, List.map_toArray, List.map_cons, List.map_nil, hs, hx, hr]
  exact hK v' w' h2 h3 h5

end Go.Proofs.Ytdofgamahjmohaa
