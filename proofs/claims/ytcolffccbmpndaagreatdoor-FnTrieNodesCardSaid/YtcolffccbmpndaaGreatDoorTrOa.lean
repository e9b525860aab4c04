/- Rows of steps side by side, and what is told that outlives a later append. -/
import Derived.Test.YtcolffccbmpndaaGreatDoorTrGw
namespace Go.Proofs.YtcolffccbmpndaaGreatDoor
open Go.RowKit Go.Deep
set_option maxRecDepth 100000

/-- What is told, read later. -/
theorem told_of2 {w w' : World} {L : List StepD} {e : Ending} (h : RunEnd w L e w') (h0 : 0 < L.length) : ∃ (g oc : Nat) (outs : List (TTold × Value)), e = .returned (.slice (some ⟨g, 0, none⟩) L.length oc) ∧ outs.map Prod.fst = runT [] L ∧ Tch [] w w' ∧ ∀ i p, outs[i]? = some p → ∃ a c, p.2 = .slice a p.1.ids.length c ∧ ∀ w'' S, Tch S w' w'' → (∀ k ∈ S, k < w.heap.size) → (∀ j, j < 4 → w''.cell? ⟨g, i * 4 + j, none⟩ = (tolC p)[j]?) ∧ UAt w'' a p.1.ids := by
  obtain ⟨oa, oc, N, outs, rfl, hO, hT⟩ := h
  have hlen : outs.length = L.length := by have := congrArg List.length hT; rw [List.length_map, runT_len] at this; exact this
  have hrow := hO.row.row
  rw [hlen] at hrow
  obtain ⟨g, cap, e1, -⟩ := ownsRow_value hrow h0
  simp only [Value.slice.injEq, true_and] at e1
  obtain ⟨rfl, rfl⟩ := e1
  refine ⟨g, _, outs, rfl, hT, hO.row.t, fun i p hp => ?_⟩
  have hi := (hO.ids p (List.mem_of_getElem? hp)).1
  obtain ⟨a, c, hv⟩ := ownsRow_slice hi
  refine ⟨a, c, hv, fun w'' S t hS => ⟨fun j hj => ?_, ?_⟩⟩
  · have hi : i < outs.length := (List.getElem?_eq_some_iff.1 hp).1
    have hr2 := ownsRow_tch hrow t (fun k hk hm => by have h1 := (hrow.lt k hk).1; have h2 := hS k hm; omega)
    rw [hr2.cellAt (i * 4 + j) (by omega)]
    exact flat_at tolC 4 (fun _ => rfl) outs i j p hp hj
  · have hr2 := ownsRow_tch hi t (fun k hk hm => by have h1 := (hi.lt k hk).1; have h2 := hS k hm; omega)
    rw [hv] at hr2
    exact (UAt.of_row hr2).1

/-- A row that is appended to stands apart from another one. -/
theorem RowV.apart {w0 w w' : World} {S : List Nat} {a : Option Addr} {c : Nat} {V : List StepV} (h : RowV w0 w a c V) (t : Tch S w w') (t0 : Tch [] w0 w') (hS : ∀ ad, a = some ad → ad.block ∉ S) : RowV w0 w' a c V :=
  ⟨⟨t0, ownsRow_tch h.own.row t (fun g hg => by
    cases a with
    | none => simp [Value.ownBlock] at hg
    | some ad => simp only [Value.ownBlock, Option.some.injEq] at hg; subst hg; exact hS ad rfl)⟩, h.by0⟩
/-- Its base, earlier. -/
theorem RowV.base {w0 w1 w : World} {a : Option Addr} {c : Nat} {V : List StepV} (h : RowV w1 w a c V) (t : Tch [] w0 w1) (hb : ∀ x ∈ V, By w0 x.s.bytes x.a x.c) : RowV w0 w a c V :=
  ⟨⟨t.trans h.own.t, h.own.row.1, h.own.row.2.imp id (fun ⟨g, cap, cur, e, h1, h2⟩ => ⟨g, cap, cur, e, Nat.le_trans t.size h1, h2⟩)⟩, hb⟩
theorem RowV.lt {w0 w : World} {a : Option Addr} {c : Nat} {V : List StepV} (h : RowV w0 w a c V) : ∀ ad, a = some ad → w0.heap.size ≤ ad.block ∧ ad.block < w.heap.size := fun ad e => by
  subst e
  exact h.own.row.lt ad.block rfl

/-- Two steps more, of a row that stands. -/
theorem RowV.apps2 {w0 w : World} {a : Option Addr} {c : Nat} {V : List StepV} (h : RowV w0 w a c V) (x y : StepV) (hx : By w0 x.s.bytes x.a x.c) (hy : By w0 y.s.bytes y.a y.c) (hl : V.length ≤ 10000) {k : Nat} (hN : w.heap[k]? = some (.cells #[.int .i64 x.s.kind, .slice x.a x.s.bytes.length x.c, .string (bs x.s.holes), .int .u64 x.s.id, .int .i64 y.s.kind, .slice y.a y.s.bytes.length y.c, .string (bs y.s.holes), .int .u64 y.s.id] 28 (0, 0))) :
    ∃ v' w', (Builtin.append_ #[22, 22] 22 #[.slice a V.length c, .slice (some ⟨k, 0, none⟩) 2 2]).run Tryz.prog w = .ok v' w' ∧ ∃ g c', v' = .slice (some ⟨g, 0, none⟩) (V.length + 2) c' ∧ RowV w0 w' (some ⟨g, 0, none⟩) c' (V ++ [x, y]) ∧ Tch (Value.slice a V.length c).ownBlock.toList w w' := by
  obtain ⟨i0, hinf, hz0, hz1, hz2⟩ := info_parts Tryz.infoStep
  obtain ⟨v', w', hr, ho, ht⟩ := own_apps (ty := 22) Tryz.underlying22 hinf hz0 hz1 hz2 rfl (by decide) (by decide) ⟨k, 0, none⟩ 2 2 ([x, y].flatMap stC) h.own (by omega) rfl (fun j u hu => by
    rw [addr_add0, cell_of_row _ _ j _ _ _ hN]
    simpa [stC] using hu) (by intro u hu; simp [stC] at hu; rcases hu with rfl | rfl | rfl | rfl | rfl | rfl | rfl | rfl <;> rfl)
  have h2 := ho.row
  obtain ⟨g, cap, e, -⟩ := ownsRow_value h2 (by omega)
  subst e
  refine ⟨_, w', hr, g, cap, rfl, ⟨?_, fun z hz => ?_⟩, ht⟩
  · rw [List.length_append, List.flatMap_append]
    exact ho
  · rcases List.mem_append.1 hz with hz | hz
    · exact h.by0 z hz
    · simp only [List.mem_cons, List.not_mem_nil, or_false] at hz
      rcases hz with rfl | rfl
      · exact hx
      · exact hy

theorem tch_q {w w' : World} (h : ∃ q, w' = w.drewN q) : Tch [] w w' := by
  obtain ⟨q, rfl⟩ := h
  exact (Tch.refl _ _).drewN q
theorem q_more {w w' : World} (h : ∃ q, w' = w.drewN q) (n : Nat) : ∃ q, w'.drewN n = w.drewN q := by
  obtain ⟨q, rfl⟩ := h
  exact ⟨q + n, World.drewN_drewN _ _ _⟩

theorem q_join {w w' : World} {n : Nat} (h : ∃ q, w' = (w.drewN n).drewN q) : ∃ q, w' = w.drewN q := by
  obtain ⟨q, rfl⟩ := h
  exact ⟨n + q, World.drewN_drewN _ _ _⟩

set_option maxHeartbeats 1000000 in
theorem alike_same (w : World) (l m : List Int) (a b : Option Addr) (c d : Nat) (ha : UAt w a l) (hb : UAt w b m) (hl : l.length ≤ 100000000) (hm : m.length ≤ 100000000) :
    Calls Tryz.prog 20 #[.slice a l.length c, .slice b m.length d] w fun e w' => e = .returned (.bool (decide (l = m))) ∧ ∃ q, w' = w.drewN q := by
  have hlI : (l.length : Int) ≤ 100000000 := by omega
  have hmI : (m.length : Int) ≤ 100000000 := by omega
  by_cases hlen : l.length = m.length
  · have HA := Lib.hid ha
    have HB := Lib.hid hb
    have HLEN := Lib.hid hlen
    have h2 : ((l.length : Int) != (m.length : Int)) = false := by rw [bne_eq_false_iff_eq]; omega
    have h3 : (l.length == m.length) = true := beq_iff_eq.2 hlen
    rw [← hlen] at h2 h3 ⊢
    clear ha hb hl hm hlen
    go_enter Tryz.func20, Tryz.ntmps20
    go_wp2_with fail
    clear h2 h3
    go_loopg [13] l.length (fun nn s13 wr => ∃ i : Nat, i ≤ l.length ∧ nn = l.length - i ∧ s13 = .int .i64 i ∧ Hid ((∃ q, wr = w.drewN q) ∧ ∀ j, j < i → l.getD j 0 = m.getD j 0))
    case atStart => exact ⟨0, Nat.zero_le _, rfl, rfl, ⟨0, rfl⟩, fun j hj => absurd hj (Nat.not_lt_zero j)⟩
    case round =>
      obtain ⟨i, hi, rfl, rfl, HZ⟩ := hrel
      rename World => wr
      by_cases hlt : i < l.length
      · have HLT := Lib.hid hlt
        have hlt2 : (i : Int) < (l.length : Int) := by omega
        obtain ⟨ad, rfl, hca⟩ := (HA.out.tch (tch_q HZ.out.1)).cell i hlt
        obtain ⟨bd, rfl, hcb⟩ := (HB.out.tch (tch_q HZ.out.1)).cell i (by rw [← HLEN.out]; exact hlt)
        have HNE : Hid (l.getD i 0 ≠ m.getD i 0 → l ≠ m) := Lib.hid (fun h e => h (by rw [e]))
        have HSTEP : Hid (l.getD i 0 = m.getD i 0 → ∀ j, j < i + 1 → l.getD j 0 = m.getD j 0) := Lib.hid (fun h j hj => by
          by_cases e : j = i
          · rw [e]; exact h
          · exact HZ.out.2 j (by omega))
        generalize l.getD i 0 = x at *
        generalize m.getD i 0 = y at *
        clear hlt hi
        by_cases hxy : x = y
        · have hb1 : (x != y) = false := by simpa using hxy
          have hb2 : (x == y) = true := by simpa using hxy
          have HXY := Lib.hid hxy
          clear hxy
          go_wp2_with fail
          go_quiet (fail)
          go_wp2_with fail
          go_roundg (l.length - (i + 1))
          case rel => exact ⟨i + 1, HLT.out, rfl, by go_num, q_more HZ.out.1 _, HSTEP.out HXY.out⟩
          case measure => have := HLT.out; omega
        · have hb1 : (x != y) = true := by simpa using hxy
          have hb2 : (x == y) = false := by simpa using hxy
          have HNX := Lib.hid (HNE.out hxy)
          clear hxy
          go_wp2_with fail
          go_quiet (fail)
          go_wp2_with fail
          go_ret
          exact ⟨by rw [decide_eq_false HNX.out]; rfl, q_more HZ.out.1 _⟩
      · obtain rfl : i = l.length := by omega
        have HEQ : Hid (l = m) := Lib.hid (by
          apply List.ext_getElem HLEN.out
          intro j h1 h2
          have := HZ.out.2 j h1
          simpa [List.getD, List.getElem?_eq_getElem h1, List.getElem?_eq_getElem h2] using this)
        clear hlt hi
        go_wp2_with fail
        go_ret
        exact ⟨by rw [decide_eq_true HEQ.out]; rfl, HZ.out.1⟩
  · have HNX : Hid (l ≠ m) := Lib.hid (fun e => hlen (by rw [e]))
    have h2 : ((l.length : Int) != (m.length : Int)) = true := bne_iff_ne.2 (by omega)
    have h4 : ((l.length : Int) == (m.length : Int)) = false := beq_eq_false_iff_ne.2 (by omega)
    have h3 : (l.length == m.length) = false := beq_eq_false_iff_ne.2 hlen
    clear ha hb hl hm hlen
    go_enter Tryz.func20, Tryz.ntmps20
    go_wp2_with fail
    go_ret
    exact ⟨by rw [decide_eq_false HNX.out]; rfl, ⟨0, rfl⟩⟩

theorem putO_le (n : Int) : ∀ l : List Int, (putO l n).length ≤ l.length + 1
  | [] => by simp [putO]
  | x :: l => by
    have := putO_le n l
    unfold putO
    split
    · simp only [List.length_cons]; omega
    · split <;> simp
theorem foldl_put_le : ∀ (ys : Stand) (l : List Int), (ys.foldl (fun l y => putO l y.2) l).length ≤ l.length + ys.length
  | [], l => by simp
  | y :: ys, l => by
    have h1 := foldl_put_le ys (putO l y.2)
    have h2 := putO_le y.2 l
    simp only [List.foldl_cons, List.length_cons]
    omega
theorem idsFor_le (st : Stand) (key : List Int) : (idsFor st key).length ≤ st.length := by
  have h1 := foldl_put_le (st.filter (fun y => fitsP y.1 key)) []
  have h2 := List.length_filter_le (fun y : Path × Int => fitsP y.1 key) st
  unfold idsFor
  simp only [List.length_nil] at h1
  omega
theorem order_run2 (A : List StepD) (key : List Int) (h : ∀ s ∈ A, isAddD s) : ∃ T T' ids m nd, T.length = A.length ∧ T'.length = A.length ∧ 1 ≤ nd ∧ ids.length ≤ A.length ∧ runT [] (A ++ [⟨4, key, [], 0⟩, ⟨5, [], [], 0⟩]) = T ++ [⟨true, ids, m, 0⟩, ⟨true, [], 0, nd⟩] ∧ runT [] (A.reverse ++ [⟨4, key, [], 0⟩, ⟨5, [], [], 0⟩]) = T' ++ [⟨true, ids, m, 0⟩, ⟨true, [], 0, nd⟩] := by
  have e1 : ∀ st, stepT st ⟨4, key, [], 0⟩ = (st, ⟨true, idsFor st key, (idsFor st key).length, 0⟩) := fun st => by simp [stepT]
  have e2 : ∀ st, stepT st ⟨5, [], [], 0⟩ = (st, ⟨true, [], 0, (nodesS st).length⟩) := fun st => by simp [stepT]
  have hm : ∀ x, x ∈ A.map entryE ↔ x ∈ A.reverse.map entryE := fun x => by simp
  have hpos : 1 ≤ (nodesS (A.map entryE)).length := List.length_pos_of_mem ((nodesS_mem _ []).2 (.inl rfl))
  refine ⟨runT [] A, runT [] A.reverse, idsFor (A.map entryE) key, (idsFor (A.map entryE) key).length, (nodesS (A.map entryE)).length, runT_len _ _, by rw [runT_len]; simp, by omega, Nat.le_trans (idsFor_le _ _) (by simp), ?_, ?_⟩
  · rw [runT_append, fold_add A [] h, List.nil_append]
    simp only [runT, e1, e2]
  · rw [runT_append, fold_add A.reverse [] (fun s hs => h s (by simpa using hs)), List.nil_append]
    simp only [runT, e1, e2, ← idsFor_perm hm key, ← nodes_perm hm]

/-- What RunTrie told of a key and of the nodes, to be read later. -/
def TwoTold (w w' : World) (n : Nat) (ids : List Int) (nd : Int) (e : Ending) : Prop :=
  ∃ g oc, e = .returned (.slice (some ⟨g, 0, none⟩) (n + 2) oc) ∧ Tch [] w w' ∧ ∃ a q, ∀ w'' S, Tch S w' w'' → (∀ k ∈ S, k < w.heap.size) → w''.cell? ⟨g, n * 4 + 1, none⟩ = some (.slice a ids.length q) ∧ w''.cell? ⟨g, (n + 1) * 4 + 3, none⟩ = some (.int .i64 nd) ∧ UAt w'' a ids
theorem two_call {w w7 : World} {L : List StepV} {key : List Int} {ka : Option Addr} {kc g7 c7 n : Nat} {T : List TTold} {ids : List Int} {m nd : Int} (hR : RowV w w7 (some ⟨g7, 0, none⟩) c7 (L ++ [⟨⟨4, key, [], 0⟩, ka, kc⟩, ⟨⟨5, [], [], 0⟩, none, 0⟩])) (hn : L.length = n) (hA : ∀ x ∈ L, okS x.s) (hl : n ≤ 1000) (hk : key.length ≤ 10000) (hT : Tabs w7) (hTl : T.length = n) (hrun : runT [] (L.map (·.s) ++ [⟨4, key, [], 0⟩, ⟨5, [], [], 0⟩]) = T ++ [⟨true, ids, m, 0⟩, ⟨true, [], 0, nd⟩]) :
    Calls Tryz.prog 16 #[.slice (some ⟨g7, 0, none⟩) (n + 2) c7] w7 fun e w' => TwoTold w7 w' n ids nd e := by
  have hLL : (L ++ [⟨⟨4, key, [], 0⟩, ka, kc⟩, ⟨⟨5, [], [], 0⟩, none, 0⟩] : List StepV).map (·.s) = L.map (·.s) ++ [⟨4, key, [], 0⟩, ⟨5, [], [], 0⟩] := by simp
  have hst := hR.steps
  rw [hLL] at hst
  have hlen : (L.map (·.s) ++ [⟨4, key, [], 0⟩, ⟨5, [], [], 0⟩] : List StepD).length = n + 2 := by simp [hn]
  have hcall := runTrie_any _ (some ⟨g7, 0, none⟩) c7 w7 (by rw [hlen]; omega) hst (getD_all (fun s hs => by
    rcases List.mem_append.1 hs with hs | hs
    · obtain ⟨x, hx, rfl⟩ := List.mem_map.1 hs
      exact hA x hx
    · simp only [List.mem_cons, List.not_mem_nil, or_false] at hs
      rcases hs with rfl | rfl
      · exact okS_get key 0 (by omega) 4 (by decide)
      · exact okS_get [] 0 (by simp) 5 (by decide))) hT
  rw [hlen] at hcall
  refine hcall.mono ?_
  intro e w2 hE
  obtain ⟨g, oc, outs, rfl, ho, t, hc⟩ := told_of2 hE (by rw [hlen]; omega)
  rw [hlen]
  rw [hrun] at ho
  obtain ⟨P, R, rfl, hP, hR2⟩ := List.map_eq_append_iff.1 ho
  have hPl : P.length = n := by rw [← hTl, ← hP, List.length_map]
  rcases R with _ | ⟨p0, _ | ⟨p1, _ | ⟨p2, r⟩⟩⟩ <;> simp at hR2
  obtain ⟨o0, o1⟩ := hR2
  obtain ⟨a0, q0, e0, h0⟩ := hc n p0 (by rw [List.getElem?_append_right (by omega), hPl]; simp)
  obtain ⟨a1, q1, e1, h1⟩ := hc (n + 1) p1 (by rw [List.getElem?_append_right (by omega), hPl]; simp)
  refine ⟨g, oc, rfl, t, a0, q0, fun w'' S t hS => ?_⟩
  obtain ⟨c0, u0⟩ := h0 w'' S t hS
  obtain ⟨c1, -⟩ := h1 w'' S t hS
  rw [o0] at u0
  refine ⟨?_, ?_, u0⟩
  · rw [c0 1 (by omega)]
    simp only [tolC, e0, o0, List.getElem?_cons_succ, List.getElem?_cons_zero]
  · rw [c1 3 (by omega)]
    simp only [tolC, o1, List.getElem?_cons_succ, List.getElem?_cons_zero]

end Go.Proofs.YtcolffccbmpndaaGreatDoor
