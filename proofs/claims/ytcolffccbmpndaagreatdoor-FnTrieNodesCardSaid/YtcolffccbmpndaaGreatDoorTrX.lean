/- impl.RunTrie, walked. (printed by wip/gen/genrunx.py) -/
import Derived.Test.YtcolffccbmpndaaGreatDoorTrU
namespace Go.Proofs.YtcolffccbmpndaaGreatDoor
open Go.RowKit Go.Deep
set_option maxRecDepth 100000

theorem Tryz.infoTold : (Tryz.prog.info? 33).map (fun i => (i.zero, i.size, i.bytes)) = some (some (.agg #[.bool false, .slice none 0 0, .int .i64 0, .int .i64 0]), 4, 48) := by kernel_rfl

/-- What RunTrie tells. -/
def RunEnd (w : World) (L : List StepD) (e : Ending) (w' : World) : Prop :=
  ∃ oa oc N outs, e = .returned (.slice oa L.length oc) ∧ OutT w w' N (.slice oa L.length oc) outs ∧ outs.map Prod.fst = runT [] L

/-- Between two steps. -/
structure Mid (w wr : World) (tb root : Nat) (L : List StepD) (k : Nat) (oa : Option Addr) (oc : Nat) (N : Net) (outs : List (TTold × Value)) : Prop where
  tr : TrAt wr w.heap.size tb root N
  ct : cont N = Cst (standT (L.take k))
  out : OutT w wr N (.slice oa k oc) outs
  told : outs.map Prod.fst = runT [] (L.take k)

theorem take_step (L : List StepD) {k : Nat} (hk : k < L.length) : standT (L.take (k + 1)) = (stepT (standT (L.take k)) (L.getD k default)).1 ∧ runT [] (L.take (k + 1)) = runT [] (L.take k) ++ [(stepT (standT (L.take k)) (L.getD k default)).2] := by
  have e : L.take (k + 1) = L.take k ++ [L.getD k default] := by
    rw [List.take_succ_eq_append_getElem hk]
    simp [List.getD, List.getElem?_eq_getElem hk]
  rw [e]
  refine ⟨by unfold standT; rw [List.foldl_append]; rfl, ?_⟩
  rw [runT_append]; rfl
theorem stand_size (L : List StepD) (h : ∀ i, i < L.length → okS (L.getD i default)) : ∀ k, k ≤ L.length → (standT (L.take k)).length ≤ k ∧ sizeS (standT (L.take k)) ≤ 20000 * k := by
  intro k
  induction k with
  | zero => intro _; exact ⟨Nat.zero_le _, Nat.zero_le _⟩
  | succ k ih =>
    intro hk
    have h1 := ih (by omega)
    have h2 := stepT_size (standT (L.take k)) (L.getD k default) (h k (by omega)).bytes
    rw [(take_step L (by omega)).1]
    exact ⟨by omega, by omega⟩

/-- Numbers copied into a row that was just made. -/
theorem copy_ids (W : World) (bsz : Nat) (hb : W.heap[bsz]? = some (.cells #[] 26 (0, 0))) (a : Option Addr) (n c : Nat) (l : List Int) {base : Nat} (h : W.ownsRow base 26 1 (.slice a n c) n (uV l)) (hl : n ≤ 1000000) :
    ∃ v w', (Builtin.append_ #[31, 31] 31 #[.slice (some ⟨bsz, 0, none⟩) 0 0, .slice a n c]).run Tryz.prog W = .ok v w' ∧ ∃ g c', v = .slice (some ⟨g, 0, none⟩) n c' ∧ w'.ownsRow bsz 26 1 (.slice (some ⟨g, 0, none⟩) n c') n (uV l) ∧ bsz ≤ g ∧ Tch [bsz] W w' := by
  obtain ⟨i0, hi, hz0, hz1, hz2⟩ := info_parts (show (Tryz.prog.info? 26).map (fun i => (i.zero, i.size, i.bytes)) = some (some (.int .u64 0), 1, 8) by kernel_rfl)
  have hown : W.ownsRow bsz 26 1 (.slice (some ⟨bsz, 0, none⟩) 0 0) 0 [] := ⟨rfl, .inr ⟨bsz, 0, #[], rfl, Nat.le_refl _, hb, Nat.le_refl _, Nat.zero_le _, rfl, rfl⟩⟩
  have hbl := lt_of_obj hb
  have hlen : l.length = n := by have := h.1; unfold uV at this; simp at this; omega
  cases a with
  | none =>
    rcases h.2 with ⟨e, -⟩ | ⟨g, cap, cur, e, -⟩
    · simp only [Value.slice.injEq, true_and] at e
      obtain ⟨rfl, rfl⟩ := e
      obtain rfl : l = [] := List.eq_nil_of_length_eq_zero hlen
      exact ⟨_, _, run_append_owned_none _ bsz 31 31 26 i0 1 Tryz.underlying31 hi _ 0 [] hown, bsz, 0, rfl, hown, Nat.le_refl _, Tch.refl _ _⟩
    · simp at e
  | some ad =>
    obtain ⟨v', w', hrun, ho, hg, -, hloc⟩ := run_append_own_at (P := Tryz.prog) W bsz 31 31 26 i0 (.int .u64 0) 1 8 Tryz.underlying31 hi hz0 hz1 hz2 rfl (by decide) _ 0 [] hown ad n c (uV l) (by unfold uV; simp [hlen]) (fun j u hu => (own_cell h hu).2) (by intro u hu; unfold uV at hu; obtain ⟨x, -, rfl⟩ := List.mem_map.1 hu; rfl) (by unfold maxLen; omega) (by omega) (by omega)
    rw [Nat.zero_add, List.nil_append] at ho
    have hb' : ∃ g, v'.ownBlock = some g ∧ bsz ≤ g := by
      rcases hloc with e | e
      · exact ⟨_, e, Nat.le_refl _⟩
      · exact ⟨_, e, by omega⟩
    obtain ⟨g, hg1, hg2⟩ := hb'
    have hv : ∃ c', v' = .slice (some ⟨g, 0, none⟩) n c' := by
      rcases ho.2 with ⟨e, -⟩ | ⟨g', cap, cur, e, -⟩
      · rw [e] at hg1; simp [Value.ownBlock] at hg1
      · rw [e] at hg1; simp [Value.ownBlock] at hg1; subst hg1; exact ⟨cap, e⟩
    obtain ⟨c', rfl⟩ := hv
    exact ⟨_, w', hrun, g, c', rfl, ho, hg2, (Tch.refl _ _).grown hg (fun k hk hlt => by simp [Value.ownBlock] at hk; simp [hk])⟩

/-- A step taken, what it tells not yet written down. -/
structure Done (w wk : World) (tb root : Nat) (L : List StepD) (k : Nat) (p : StepD) (oa : Option Addr) (oc : Nat) (N : Net) (outs : List (TTold × Value)) (t : TTold) (vi : Value) : Prop where
  tr : TrAt wk w.heap.size tb root N
  ct : cont N = Cst (stepT (standT (L.take k)) p).1
  out : OutT w wk N (.slice oa k oc) outs
  told : outs.map Prod.fst = runT [] (L.take k)
  ids : wk.ownsRow w.heap.size 26 1 vi t.ids.length (uV t.ids) ∧ ∀ k, vi.ownBlock = some k → ¬ fpAt N [] k
  eq : t = (stepT (standT (L.take k)) p).2

theorem done_of {w wr w7 w8 w9 : World} {tb root : Nat} {L : List StepD} {k : Nat} {p : StepD} {oa : Option Addr} {oc : Nat} {N N' : Net} {C : Cont} {outs : List (TTold × Value)} {t : TTold} {vi : Value} {tbx : Nat} {cs : Array Value} (h : Mid w wr tb root L k oa oc N outs) (T7 : Tch [] wr w7) (hW : Went w7 w.heap.size tb root N C w8 N') (hC : C = Cst (stepT (standT (L.take k)) p).1)
    (tS : Tch [tbx] w8 w9) (hb : w8.heap[tbx]? = some (.cells cs 33 (0, 0))) (hlt : wr.heap.size ≤ tbx) (hrow : w9.ownsRow w.heap.size 26 1 vi t.ids.length (uV t.ids)) (hfree : ∀ k, vi.ownBlock = some k → ¬ fpAt N' [] k) (ht : t = (stepT (standT (L.take k)) p).2) : Done w w9 tb root L k p oa oc N' outs t vi := by
  have hfr : ¬ fpAt N' [] tbx := hW.tr.tm.other hb (by decide) (by decide)
  have tF : Tof (fun k => k = tbx) w8 w9 := Tof.of_tch tS (fun k hk _ => by simpa using hk)
  have hO8 := (h.out.tch T7).went (h.tr.tch T7) hW
  have hold : ∀ g, g < wr.heap.size → g ≠ tbx := fun g hg e => by omega
  have t8 := hO8.row.t.then tS (fun i hi hm => by
    have e := List.mem_singleton.1 hm
    have := h.out.row.t.size
    omega)
  refine ⟨⟨hW.tr.tm.tof tF (fun q r hq k hk e => hfr ⟨q, r, by simpa using hq, by rw [← e]; exact hk⟩), tS.obj hW.tr.top (fun hm => by
    have e := List.mem_singleton.1 hm
    have := hW.tr.top
    rw [e, hb] at this; simp at this), hW.tr.lo⟩, by rw [hW.cont, hC], ⟨⟨t8, ownsRow_tof tF hO8.row.row (fun g hg => hold g (h.out.row.row.lt g hg).2)⟩, fun p hp => ⟨ownsRow_tof tF (hO8.ids p hp).1 (fun g hg => hold g ((h.out.ids p hp).1.lt g hg).2), (hO8.ids p hp).2⟩⟩, h.told, ⟨hrow, hfree⟩, ht⟩

/-- What a step tells is written down. -/
theorem Done.next {w wk w9 : World} {tb root : Nat} {L : List StepD} {k : Nat} {p : StepD} {oa : Option Addr} {oc : Nat} {N : Net} {outs : List (TTold × Value)} {t : TTold} {vi : Value} {g9 c9 : Nat} (h : Done w wk tb root L k p oa oc N outs t vi) (hp : L.getD k default = p) (hk : k < L.length)
    (n1 : Own w w9 33 4 (.slice (some ⟨g9, 0, none⟩) (k + 1) c9) (k + 1) (outs.flatMap tolC ++ [.bool t.ok, vi, .int .i64 t.many, .int .i64 t.nodes])) (n4 : Tch (Value.slice oa k oc).ownBlock.toList wk w9) : Mid w w9 tb root L (k + 1) (some ⟨g9, 0, none⟩) c9 N (outs ++ [(t, vi)]) := by
  have hlen : outs.length = k := by
    have := congrArg List.length h.told
    rw [List.length_map, runT_len, List.length_take] at this
    omega
  have hts := take_step L hk
  rw [hp] at hts
  have tF : Tof (fun g => (Value.slice oa k oc).ownBlock = some g) wk w9 := Tof.of_tch n4 (fun g hg _ => by simpa [Option.mem_toList] using hg)
  have hrb : ∀ g, (Value.slice oa k oc).ownBlock = some g → ∃ cur, wk.heap[g]? = some (.cells cur 33 (0, 0)) := fun g hg => ownsRow_block h.out.row.row hg
  have hne : ∀ g cur e, wk.heap[g]? = some (.cells cur e (0, 0)) → e ≠ 33 → ¬ (Value.slice oa k oc).ownBlock = some g := fun g cur e hg he hb => by
    obtain ⟨cur', h1⟩ := hrb g hb
    rw [hg] at h1; simp at h1; exact he h1.2
  refine ⟨⟨h.tr.tm.tof tF (fun q r hq g hg hb => ?_), tF.obj h.tr.top (hne _ _ _ h.tr.top (by decide)), h.tr.lo⟩, by rw [h.ct, hts.1], ⟨⟨n1.t, ?_⟩, fun x hx => ?_⟩, ?_⟩
  · obtain ⟨cur, h1⟩ := hrb g hb
    exact h.tr.tm.other h1 (by decide) (by decide) ⟨q, r, by simpa using hq, hg⟩
  · have := n1.row
    rw [List.length_append, List.length_singleton, hlen, List.flatMap_append]
    exact this
  · have key : ∀ x : TTold × Value, wk.ownsRow w.heap.size 26 1 x.2 x.1.ids.length (uV x.1.ids) ∧ (∀ k, x.2.ownBlock = some k → ¬ fpAt N [] k) → w9.ownsRow w.heap.size 26 1 x.2 x.1.ids.length (uV x.1.ids) ∧ ∀ k, x.2.ownBlock = some k → ¬ fpAt N [] k := fun x hx => ⟨ownsRow_tof tF hx.1 (fun g hg => by
      obtain ⟨cur, h1⟩ := ownsRow_block hx.1 hg
      exact hne _ _ _ h1 (by decide)), hx.2⟩
    rcases List.mem_append.1 hx with hx | hx
    · exact key x (h.out.ids x hx)
    · rw [List.mem_singleton.1 hx]; exact key (t, vi) h.ids
  · rw [List.map_append, h.told, hts.2, h.eq]; rfl

theorem tol_cells {w : World} {b : Nat} {v0 v1 v2 v3 : Value} {e : TypeId} (h : w.heap[b]? = some (.cells #[v0, v1, v2, v3] e (0, 0))) : w.cell? ⟨b, 0, none⟩ = some v0 ∧ w.cell? ⟨b, 1, none⟩ = some v1 ∧ w.cell? ⟨b, 2, none⟩ = some v2 ∧ w.cell? ⟨b, 3, none⟩ = some v3 :=
  ⟨by rw [cell_of_row w b 0 _ _ _ h]; rfl, by rw [cell_of_row w b 1 _ _ _ h]; rfl, by rw [cell_of_row w b 2 _ _ _ h]; rfl, by rw [cell_of_row w b 3 _ _ _ h]; rfl⟩

set_option maxHeartbeats 8000000 in
theorem runTrie_any (L : List StepD) (sa : Option Addr) (cz : Nat) (w : World) (hll : L.length ≤ 2500) (hst : StepsAt w sa L) (hok : ∀ i, i < L.length → okS (L.getD i default)) (ht : Tabs w) :
    Calls Tryz.prog 16 #[.slice sa L.length cz] w (RunEnd w L) := by
  have HLL := Lib.hid hll
  have HST := Lib.hid hst
  have HOK := Lib.hid hok
  have HTB := Lib.hid ht
  have hlI : (L.length : Int) ≤ 2500 := by omega
  obtain ⟨i0, hinf, hz0, hz1, hz2⟩ := info_parts Tryz.infoTold
  have HAP := Lib.hid (fun (w0 wr : World) (v : Value) (n : Nat) (xs : List Value) (t : TTold) (vi : Value) (h1 : vi.oneCell' = true) (h : Own w0 wr 33 4 v n xs) (hn : n ≤ 100000000) => own_app (ty := 29) Tryz.underlying29 hinf hz0 hz1 hz2 rfl (by decide) (by decide) #[.bool t.ok, vi, .int .i64 t.many, .int .i64 t.nodes] h hn rfl (by intro x hx; simp only [List.mem_cons, List.not_mem_nil, or_false] at hx; rcases hx with rfl | rfl | rfl | rfl <;> first | rfl | exact h1))
  clear hll hst hok ht hinf hz0 hz1 hz2
  go_enter Tryz.func16, Tryz.ntmps16
  go_wp2_with fail
  refine (NewTrie_any w w.heap.size (Nat.le_refl _)).mono ?_
  rintro e w1 ⟨tb, root, N0, rfl, hA, hC, hT, -⟩
  have HM0 : Hid (Mid w (w1.alloc (.cells #[] 33)) tb root L 0 (some ⟨w1.heap.size, 0, none⟩) 0 N0 []) := Lib.hid (by
    have hO := Own.new hT 33 4
    exact ⟨hA.tch ((Tch.refl _ _).alloc _), by rw [hC]; rfl, ⟨hO, by simp⟩, rfl⟩)
  clear hA hC hT
  go_wp2_with fail
  go_loopg [4, 13] L.length (fun nn s4 s13 wr => ∃ (k : Nat) (oa : Option Addr) (oc : Nat) (N : Net) (outs : List (TTold × Value)), k ≤ L.length ∧ nn = L.length - k ∧ s4 = .slice oa k oc ∧ s13 = .int .i64 k ∧ Hid (Mid w wr tb root L k oa oc N outs))
  case atStart => exact ⟨0, _, _, N0, [], Nat.zero_le _, rfl, rfl, rfl, HM0.out⟩
  case round =>
    obtain ⟨k, oa, oc, N, outs, hk, rfl, rfl, rfl, HM⟩ := hrel
    rename World => wr
    by_cases hlt : k < L.length
    · obtain ⟨a, rfl, hsa⟩ := HST.out k hlt
      have hlt2 : (k : Int) < (L.length : Int) := by omega
      obtain ⟨ba, bc, x0, x1, x2, x3, hby⟩ := (hsa.tch HM.out.out.row.t).all
      have HKT := Lib.hid (take_step L hlt)
      have HP := Lib.hid (HOK.out k hlt)
      have HSZ := Lib.hid (stand_size L HOK.out k hk)
      have HLT := Lib.hid hlt
      have HBY := Lib.hid hby
      have HTW := Lib.hid HM.out.out.row.t
      have HCPY := Lib.hid (fun (W : World) (hsz : Nat) (e : W.heap.size = hsz) (h : By W (L.getD k default).bytes ba bc) => copy_bytes W hsz e _ ba bc h (by have := HP.out.bytes; omega))
      generalize hpe : L.getD k default = p at *
      have HPE := Lib.hid hpe
      have HLEN : Hid (outs.length = k) := Lib.hid (by
        have := congrArg List.length HM.out.told
        rw [List.length_map, runT_len, List.length_take] at this
        omega)
      obtain ⟨kd, bytes, holes, id⟩ := p
      simp only [] at x0 x1 x2 x3 HBY HCPY
      have HBY1 : Hid (By ((wr.alloc (.cells #[.int .i64 kd, .slice ba bytes.length bc, .string (bs holes), .int .u64 id] 28)).alloc (.cells #[.bool true, .slice none 0 0, .int .i64 0, .int .i64 0] 33)) bytes ba bc) := Lib.hid (HBY.out.tch (((Tch.refl _ _).alloc _).alloc _))
      have HCP1 := Lib.hid (HCPY.out _ (wr.heap.size + 1 + 1) (by simp) HBY1.out)
      clear hsa hby hlt hk HCPY hpe
      go_upto_region 8 with (at_builtin; refine wpList_append_run rfl (.tmp 18) (.tmp 20) 23 rfl (.slice (some ⟨wr.heap.size + 1 + 1, 0, none⟩) 0 0) (.slice ba bytes.length bc) (by simp [Act.eval]) (by simp [Act.eval]) _ HCP1.out ?_; rintro vv w7 ⟨g7, c7, rfl, q1, q2, q3⟩; have HB7 := Lib.hid q1; have HG7 := Lib.hid q2; have HT7 := Lib.hid q3; clear q1 q2 q3)
      have HT07 : Hid (Tch [] wr w7) := Lib.hid ((((Tch.refl _ _).alloc _).alloc _).trans HT7.out)
      have HSB : Hid (w7.heap[wr.heap.size]? = some (.cells #[.int .i64 kd, .slice ba bytes.length bc, .string (bs holes), .int .u64 id] 28) ∧ w7.heap[wr.heap.size + 1]? = some (.cells #[.bool true, .slice none 0 0, .int .i64 0, .int .i64 0] 33)) := Lib.hid (by
        refine ⟨HT7.out.obj ?_ (by simp), HT7.out.obj ?_ (by simp)⟩
        · rw [heap_get_alloc, if_neg (by simp), heap_get_alloc, if_pos rfl]
        · rw [heap_get_alloc, if_pos (by simp)])
      have HS : Hid (∀ w', Tch [] w7 w' → w'.cell? ⟨wr.heap.size, 0, none⟩ = some (.int .i64 kd) ∧ w'.cell? ⟨wr.heap.size, 1, none⟩ = some (.slice ba bytes.length bc) ∧ w'.cell? ⟨wr.heap.size, 2, none⟩ = some (.string (bs holes)) ∧ w'.cell? ⟨wr.heap.size, 3, none⟩ = some (.int .u64 id)) := Lib.hid (fun w' t => by
        have h := t.obj HSB.out.1 (by simp)
        exact ⟨by rw [cell_of_row w' _ 0 _ _ _ h]; rfl, by rw [cell_of_row w' _ 1 _ _ _ h]; rfl, by rw [cell_of_row w' _ 2 _ _ _ h]; rfl, by rw [cell_of_row w' _ 3 _ _ _ h]; rfl⟩)
      obtain ⟨s0, s1, s2, s3⟩ := HS.out w7 (Tch.refl _ _)
      have HX7 : Hid (∀ ad, some (⟨g7, 0, none⟩ : Addr) = some ad → ¬ fpAt N [] ad.block) := Lib.hid (fun ad hd hf => by
        simp only [Option.some.injEq] at hd
        subst hd
        have h1 : g7 < wr.heap.size := (HM.out.tr.tm.fp_lt hf).2
        have h2 := HG7.out
        simp at h2
        omega)
      have HTA7 := Lib.hid (HM.out.tr.tch HT07.out)
      have HTB7 := Lib.hid (HTB.out.tch (HTW.out.trans HT07.out))
      have HCAP : Hid (∀ P ids, cont N P = some ids → ids.length < 10000000) := Lib.hid (fun P ids he => by
        rw [HM.out.ct] at he
        have hn := isNode_of.1 (show Cst (standT (L.take k)) P ≠ none by rw [he]; simp)
        rw [Cst_some hn] at he
        have h1 := idsAt_len (standT (L.take k)) P
        rw [Option.some.inj he] at h1
        have h2 := HSZ.out.1
        have h3 := HLL.out
        have h4 := HLT.out
        omega)
      have HB20 := Lib.hid (show bytes.length ≤ 1000000 by have := HP.out.bytes; simp only [] at this; omega)
      clear x0 x1 x2 x3
      by_cases k0 : kd = 0
      · subst k0
        have HC := Lib.hid (Add_any w7 w.heap.size tb root N HTA7.out bytes _ c7 HB7.out HX7.out HB20.out HTB7.out id (HCAP.out _))
        go_wp2_with fail
        refine HC.out.mono ?_
        rintro e w8 ⟨rfl, N', hW⟩
        have HW := Lib.hid hW
        have HBX := Lib.hid (hW.t.obj HSB.out.2 (HTA7.out.tm.other HSB.out.2 (by decide) (by decide)))
        clear hW s0 s1 s2 s3
        obtain ⟨c0, c1, c2, c3⟩ := tol_cells HBX.out
        have HD : Hid (Done w w8 tb root L k ⟨0, bytes, holes, id⟩ oa oc N' outs ⟨true, [], 0, 0⟩ (.slice none 0 0)) := Lib.hid (done_of HM.out HT07.out HW.out (by rw [HM.out.ct, Cst_add]; rfl) (Tch.refl _ _) HBX.out (by omega) (World.ownsRow_nil _ _ _ _) (by simp [Value.ownBlock]) rfl)
        have HA9 := Lib.hid (HAP.out w w8 (.slice oa k oc) k (outs.flatMap tolC) ⟨true, [], 0, 0⟩ (.slice none 0 0) (by first | rfl | exact HVI.out) (by have := HD.out.out.row; rw [HLEN.out] at this; exact this) (by have := HLL.out; have := HLT.out; omega))
        simp only [] at HA9
        go_wp2_with (at_builtin; refine wpList_append_run rfl (.tmp 78) (.tmp 80) 29 rfl (.slice oa k oc) (.slice (some ⟨w8.heap.size, 0, none⟩) 1 1) (by simp [Act.eval]) (by simp [Act.eval]) _ HA9.out ?_; rintro vv w9 ⟨g9, c9, rfl, n1, n2, n3, n4, n5⟩; have HN1 := Lib.hid n1; have HN4 := Lib.hid n4; clear n1 n2 n3 n4 n5)
        go_roundg (L.length - (k + 1))
        case rel => exact ⟨k + 1, _, _, _, _, by have := HLT.out; omega, rfl, rfl, by go_num, HD.out.next HPE.out HLT.out HN1.out HN4.out⟩
        case measure => have := HLT.out; omega
      by_cases k1 : kd = 1
      · subst k1
        clear k0
        have HMA := Lib.hid (fun w' (t : Tch [] w7 w') => match_any w' 1 ba bytes bc (bs holes) id (HBY.out.tch (HT07.out.trans t)) HB20.out)
        have HSM := Lib.hid (HP.out.small (.inl rfl))
        have HHL := Lib.hid HP.out.holes
        simp only [] at HSM HHL
        have HXG : Hid (∀ g, w7.heap.size ≤ g → ∀ ad, some (⟨g, 0, none⟩ : Addr) = some ad → ¬ fpAt N [] ad.block) := Lib.hid (fun g hg ad hd hf => by
          simp only [Option.some.injEq] at hd
          subst hd
          have h1 : g < w7.heap.size := (HTA7.out.tm.fp_lt hf).2
          omega)
        have HTX : Hid (∀ w', Tch [] w7 w' → w'.heap[wr.heap.size + 1]? = some (.cells #[.bool true, .slice none 0 0, .int .i64 0, .int .i64 0] 33)) := Lib.hid (fun w' t => t.obj HSB.out.2 (by simp))
        cases hpp : parseP holes with
        | none =>
          have HC := Lib.hid (fun w' (t : Tch [] w7 w') a c => Calls.mono (AddMatch_bad w' w.heap.size tb root N (HTA7.out.tch t) bytes a c holes HHL.out (HTB7.out.tch t) HSM.out hpp id) (fun e w'' (hh : (∃ t p, e = .returned (.iface t p)) ∧ Tch [] w' w'') => (⟨hh.1, went_same HTA7.out (t.trans hh.2) rfl, (t.trans hh.2).obj HSB.out.1 (by simp), (t.trans hh.2).obj HSB.out.2 (by simp)⟩ : (∃ t p, e = .returned (.iface t p)) ∧ Went w7 w.heap.size tb root N (cont N) w'' N ∧ w''.heap[wr.heap.size]? = some (.cells #[.int .i64 1, .slice ba bytes.length bc, .string (bs holes), .int .u64 id] 28 (0, 0)) ∧ w''.heap[wr.heap.size + 1]? = some (.cells #[.bool true, .slice none 0 0, .int .i64 0, .int .i64 0] 33 (0, 0)))))
          have HST : Hid (stepT (standT (L.take k)) ⟨1, bytes, holes, id⟩ = (standT (L.take k), ⟨false, [], 0, 0⟩)) := Lib.hid (by simp [stepT, holesD, hpp])
          clear hpp
          go_wp2_with fail
          go_region_held3 (fun w' => w'.cell? ⟨wr.heap.size, 0, none⟩ = some (.int .i64 1) ∧ w'.cell? ⟨wr.heap.size, 1, none⟩ = some (.slice ba bytes.length bc) ∧ w'.cell? ⟨wr.heap.size, 2, none⟩ = some (.string (bs holes)) ∧ w'.cell? ⟨wr.heap.size, 3, none⟩ = some (.int .u64 id)) (go_keep)
            (first
              | (go_at_call 28; (with_reducible refine (HMA.out _ ?_).mono ?_); (repeat (first | exact Tch.refl _ _ | exact Hid.out (by assumption) | refine Tch.drew ?_ | refine Tch.alloc ?_ _)); rintro e w5 ⟨g', c', rfl, q1, q2, q3⟩
                 have T5 : Hid (Tch [] w7 w5) := Tch.trans (by (repeat (first | exact Tch.refl _ _ | exact Hid.out (by assumption) | refine Tch.drew ?_ | refine Tch.alloc ?_ _))) q3
                 have HGW : Hid (w7.heap.size ≤ g') := Lib.hid (Nat.le_trans (Tch.size (S := []) (by (repeat (first | exact Tch.refl _ _ | exact Hid.out (by assumption) | refine Tch.drew ?_ | refine Tch.alloc ?_ _)))) q2)
                 have HQ1 := Lib.hid q1
                 clear q1 q2 q3 s0 s1 s2 s3
                 obtain ⟨s0, s1, s2, s3⟩ := HS.out w5 T5.out)
              | (go_at_call 27; (with_reducible refine (HC.out _ ?_ (some ⟨g', 0, none⟩) c').mono ?_); (repeat (first | exact Tch.refl _ _ | exact Hid.out (by assumption) | refine Tch.drew ?_ | refine Tch.alloc ?_ _)); rintro e w6 ⟨⟨et, ep, rfl⟩, hW, hsb, htb⟩
                 have HBX := Lib.hid htb
                 have HW := Lib.hid hW
                 clear s0 s1 s2 s3
                 obtain ⟨s0, s1, s2, s3⟩ := tol_cells hsb
                 clear hW hsb htb
                 have f0 := frozen_of (j := 0) HBX.out
                 obtain ⟨c0, c1, c2, c3⟩ := tol_cells HBX.out))
          have hz := heap_setCell_same w6 (wr.heap.size + 1) 0 _ _ (.bool false) HBX.out
          simp only [Array.setIfInBounds] at hz
          have HTS : Hid (Tch [wr.heap.size + 1] w6 (w6.setCell ⟨wr.heap.size + 1, 0, none⟩ (.bool false))) := Lib.hid ((Tch.refl _ _).setCell (p := ⟨wr.heap.size + 1, 0, none⟩) (fun _ => by simp) _)
          generalize w6.setCell ⟨wr.heap.size + 1, 0, none⟩ (.bool false) = wz at *
          have HZB : Hid (wz.heap[wr.heap.size + 1]? = some (.cells #[.bool false, .slice none 0 0, .int .i64 0, .int .i64 0] 33 (0, 0))) := Lib.hid (by simpa using hz)
          clear hz s0 s1 s2 s3 c0 c1 c2 c3 f0
          obtain ⟨c0, c1, c2, c3⟩ := tol_cells HZB.out
          have HD : Hid (Done w wz tb root L k ⟨_, bytes, holes, id⟩ oa oc _ outs ⟨false, [], 0, 0⟩ (.slice none 0 0)) := Lib.hid (done_of HM.out HT07.out HW.out (by rw [HST.out]; exact HM.out.ct) HTS.out HBX.out (by omega) (World.ownsRow_nil _ _ _ _) (by simp [Value.ownBlock]) (by rw [HST.out]))
          have HA9 := Lib.hid (HAP.out w wz (.slice oa k oc) k (outs.flatMap tolC) ⟨false, [], 0, 0⟩ (.slice none 0 0) (by first | rfl | exact HVI.out) (by have := HD.out.out.row; rw [HLEN.out] at this; exact this) (by have := HLL.out; have := HLT.out; omega))
          simp only [] at HA9
          go_wp2_with (at_builtin; refine wpList_append_run rfl (.tmp 78) (.tmp 80) 29 rfl (.slice oa k oc) (.slice (some ⟨wz.heap.size, 0, none⟩) 1 1) (by simp [Act.eval]) (by simp [Act.eval]) _ HA9.out ?_; rintro vv w9 ⟨g9, c9, rfl, n1, n2, n3, n4, n5⟩; have HN1 := Lib.hid n1; have HN4 := Lib.hid n4; clear n1 n2 n3 n4 n5)
          go_roundg (L.length - (k + 1))
          case rel => exact ⟨k + 1, _, _, _, _, by have := HLT.out; omega, rfl, rfl, by go_num, HD.out.next HPE.out HLT.out HN1.out HN4.out⟩
          case measure => have := HLT.out; omega
        | some nf =>
          obtain ⟨n, f⟩ := nf
          have HSF : Hid (¬ fpAt N [] wr.heap.size ∧ ¬ fpAt N [] (wr.heap.size + 1)) := Lib.hid ⟨HTA7.out.tm.other HSB.out.1 (by decide) (by decide), HTA7.out.tm.other HSB.out.2 (by decide) (by decide)⟩
          have HC := Lib.hid (fun w' (t : Tch [] w7 w') g c (hg : w7.heap.size ≤ g) (hb : By w' bytes (some ⟨g, 0, none⟩) c) => Calls.mono (AddMatch_any w' w.heap.size tb root N (HTA7.out.tch t) bytes _ c hb (HXG.out g hg) HB20.out holes HHL.out (HTB7.out.tch t) HSM.out n f hpp id (HCAP.out _)) (fun e w'' (hh : e = .returned .nilIface ∧ ∃ N', Went w' w.heap.size tb root N (addC (cont N) (pathOf f bytes) id) w'' N') => (⟨hh.1, hh.2.elim fun N' hW => ⟨N', hW.from t, hW.t.obj (t.obj HSB.out.1 (by simp)) HSF.out.1, hW.t.obj (t.obj HSB.out.2 (by simp)) HSF.out.2⟩⟩ : e = .returned .nilIface ∧ ∃ N', Went w7 w.heap.size tb root N (addC (cont N) (pathOf f bytes) id) w'' N' ∧ w''.heap[wr.heap.size]? = some (.cells #[.int .i64 1, .slice ba bytes.length bc, .string (bs holes), .int .u64 id] 28 (0, 0)) ∧ w''.heap[wr.heap.size + 1]? = some (.cells #[.bool true, .slice none 0 0, .int .i64 0, .int .i64 0] 33 (0, 0)))))
          have HST : Hid (stepT (standT (L.take k)) ⟨1, bytes, holes, id⟩ = (standT (L.take k) ++ [(pathOf f bytes, id)], ⟨true, [], 0, 0⟩)) := Lib.hid (by simp [stepT, holesD, hpp])
          clear hpp
          go_wp2_with fail
          go_region_held3 (fun w' => w'.cell? ⟨wr.heap.size, 0, none⟩ = some (.int .i64 1) ∧ w'.cell? ⟨wr.heap.size, 1, none⟩ = some (.slice ba bytes.length bc) ∧ w'.cell? ⟨wr.heap.size, 2, none⟩ = some (.string (bs holes)) ∧ w'.cell? ⟨wr.heap.size, 3, none⟩ = some (.int .u64 id)) (go_keep)
            (first
              | (go_at_call 28; (with_reducible refine (HMA.out _ ?_).mono ?_); (repeat (first | exact Tch.refl _ _ | exact Hid.out (by assumption) | refine Tch.drew ?_ | refine Tch.alloc ?_ _)); rintro e w5 ⟨g', c', rfl, q1, q2, q3⟩
                 have T5 : Hid (Tch [] w7 w5) := Tch.trans (by (repeat (first | exact Tch.refl _ _ | exact Hid.out (by assumption) | refine Tch.drew ?_ | refine Tch.alloc ?_ _))) q3
                 have HGW : Hid (w7.heap.size ≤ g') := Lib.hid (Nat.le_trans (Tch.size (S := []) (by (repeat (first | exact Tch.refl _ _ | exact Hid.out (by assumption) | refine Tch.drew ?_ | refine Tch.alloc ?_ _)))) q2)
                 have HQ1 := Lib.hid q1
                 clear q1 q2 q3 s0 s1 s2 s3
                 obtain ⟨s0, s1, s2, s3⟩ := HS.out w5 T5.out)
              | (go_at_call 27; (with_reducible refine (HC.out _ ?_ g' c' HGW.out ?_).mono ?_); (repeat (first | exact Tch.refl _ _ | exact Hid.out (by assumption) | refine Tch.drew ?_ | refine Tch.alloc ?_ _)); (try (exact By.tch (w := w5) HQ1.out (by (repeat (first | exact Tch.refl _ _ | exact Hid.out (by assumption) | refine Tch.drew ?_ | refine Tch.alloc ?_ _))))); rintro e w6 ⟨rfl, N', hW, hsb, htb⟩
                 have HBX := Lib.hid htb
                 have HW := Lib.hid hW
                 clear s0 s1 s2 s3
                 obtain ⟨s0, s1, s2, s3⟩ := tol_cells hsb
                 clear hW hsb htb
                 have f0 := frozen_of (j := 0) HBX.out
                 obtain ⟨c0, c1, c2, c3⟩ := tol_cells HBX.out))
          have hz := heap_setCell_same w6 (wr.heap.size + 1) 0 _ _ (.bool true) HBX.out
          simp only [Array.setIfInBounds] at hz
          have HTS : Hid (Tch [wr.heap.size + 1] w6 (w6.setCell ⟨wr.heap.size + 1, 0, none⟩ (.bool true))) := Lib.hid ((Tch.refl _ _).setCell (p := ⟨wr.heap.size + 1, 0, none⟩) (fun _ => by simp) _)
          generalize w6.setCell ⟨wr.heap.size + 1, 0, none⟩ (.bool true) = wz at *
          have HZB : Hid (wz.heap[wr.heap.size + 1]? = some (.cells #[.bool true, .slice none 0 0, .int .i64 0, .int .i64 0] 33 (0, 0))) := Lib.hid (by simpa using hz)
          clear hz s0 s1 s2 s3 c0 c1 c2 c3 f0
          obtain ⟨c0, c1, c2, c3⟩ := tol_cells HZB.out
          have HD : Hid (Done w wz tb root L k ⟨_, bytes, holes, id⟩ oa oc _ outs ⟨true, [], 0, 0⟩ (.slice none 0 0)) := Lib.hid (done_of HM.out HT07.out HW.out (by rw [HST.out]; rw [HM.out.ct]; exact Cst_add _ _ _) HTS.out HBX.out (by omega) (World.ownsRow_nil _ _ _ _) (by simp [Value.ownBlock]) (by rw [HST.out]))
          have HA9 := Lib.hid (HAP.out w wz (.slice oa k oc) k (outs.flatMap tolC) ⟨true, [], 0, 0⟩ (.slice none 0 0) (by first | rfl | exact HVI.out) (by have := HD.out.out.row; rw [HLEN.out] at this; exact this) (by have := HLL.out; have := HLT.out; omega))
          simp only [] at HA9
          go_wp2_with (at_builtin; refine wpList_append_run rfl (.tmp 78) (.tmp 80) 29 rfl (.slice oa k oc) (.slice (some ⟨wz.heap.size, 0, none⟩) 1 1) (by simp [Act.eval]) (by simp [Act.eval]) _ HA9.out ?_; rintro vv w9 ⟨g9, c9, rfl, n1, n2, n3, n4, n5⟩; have HN1 := Lib.hid n1; have HN4 := Lib.hid n4; clear n1 n2 n3 n4 n5)
          go_roundg (L.length - (k + 1))
          case rel => exact ⟨k + 1, _, _, _, _, by have := HLT.out; omega, rfl, rfl, by go_num, HD.out.next HPE.out HLT.out HN1.out HN4.out⟩
          case measure => have := HLT.out; omega
      by_cases k2 : kd = 2
      · subst k2
        clear k0 k1
        have HST : Hid (stepT (standT (L.take k)) ⟨2, bytes, holes, id⟩ = (strikeS (standT (L.take k)) (pathOf (fun _ => false) bytes) id, ⟨true, [], 0, 0⟩)) := Lib.hid (by simp [stepT, holesD])
        have HC := Lib.hid (Delete_any w7 w.heap.size tb root N HTA7.out bytes _ c7 HB7.out HX7.out HB20.out HTB7.out id _ (depth_of HM.out.ct))
        have HSF : Hid (¬ fpAt N [] wr.heap.size ∧ ¬ fpAt N [] (wr.heap.size + 1)) := Lib.hid ⟨HTA7.out.tm.other HSB.out.1 (by decide) (by decide), HTA7.out.tm.other HSB.out.2 (by decide) (by decide)⟩
        go_wp2_with fail
        refine HC.out.mono ?_
        rintro e w6 ⟨rfl, N', hW⟩
        have HW := Lib.hid hW
        have HBX := Lib.hid (hW.t.obj HSB.out.2 HSF.out.2)
        clear hW
        have f0 := frozen_of (j := 0) HBX.out
        obtain ⟨c0, c1, c2, c3⟩ := tol_cells HBX.out
        go_upto_region 22 with (fail)
        have hz := heap_setCell_same w6 (wr.heap.size + 1) 0 _ _ (.bool true) HBX.out
        simp only [Array.setIfInBounds] at hz
        have HTS : Hid (Tch [wr.heap.size + 1] w6 (w6.setCell ⟨wr.heap.size + 1, 0, none⟩ (.bool true))) := Lib.hid ((Tch.refl _ _).setCell (p := ⟨wr.heap.size + 1, 0, none⟩) (fun _ => by simp) _)
        generalize w6.setCell ⟨wr.heap.size + 1, 0, none⟩ (.bool true) = wz at *
        have HZB : Hid (wz.heap[wr.heap.size + 1]? = some (.cells #[.bool true, .slice none 0 0, .int .i64 0, .int .i64 0] 33 (0, 0))) := Lib.hid (by simpa using hz)
        clear hz s0 s1 s2 s3 c0 c1 c2 c3 f0
        obtain ⟨c0, c1, c2, c3⟩ := tol_cells HZB.out
        have HD : Hid (Done w wz tb root L k ⟨_, bytes, holes, id⟩ oa oc _ outs ⟨true, [], 0, 0⟩ (.slice none 0 0)) := Lib.hid (done_of HM.out HT07.out HW.out (by rw [HST.out]; rw [HM.out.ct]; exact Cst_strike _ _ _) HTS.out HBX.out (by omega) (World.ownsRow_nil _ _ _ _) (by simp [Value.ownBlock]) (by rw [HST.out]))
        have HA9 := Lib.hid (HAP.out w wz (.slice oa k oc) k (outs.flatMap tolC) ⟨true, [], 0, 0⟩ (.slice none 0 0) (by first | rfl | exact HVI.out) (by have := HD.out.out.row; rw [HLEN.out] at this; exact this) (by have := HLL.out; have := HLT.out; omega))
        simp only [] at HA9
        go_wp2_with (at_builtin; refine wpList_append_run rfl (.tmp 78) (.tmp 80) 29 rfl (.slice oa k oc) (.slice (some ⟨wz.heap.size, 0, none⟩) 1 1) (by simp [Act.eval]) (by simp [Act.eval]) _ HA9.out ?_; rintro vv w9 ⟨g9, c9, rfl, n1, n2, n3, n4, n5⟩; have HN1 := Lib.hid n1; have HN4 := Lib.hid n4; clear n1 n2 n3 n4 n5)
        go_roundg (L.length - (k + 1))
        case rel => exact ⟨k + 1, _, _, _, _, by have := HLT.out; omega, rfl, rfl, by go_num, HD.out.next HPE.out HLT.out HN1.out HN4.out⟩
        case measure => have := HLT.out; omega
      by_cases k3 : kd = 3
      · subst k3
        clear k0 k1 k2
        have HMA := Lib.hid (fun w' (t : Tch [] w7 w') => match_any w' 3 ba bytes bc (bs holes) id (HBY.out.tch (HT07.out.trans t)) HB20.out)
        have HSM := Lib.hid (HP.out.small (.inr rfl))
        have HHL := Lib.hid HP.out.holes
        simp only [] at HSM HHL
        have HXG : Hid (∀ g, w7.heap.size ≤ g → ∀ ad, some (⟨g, 0, none⟩ : Addr) = some ad → ¬ fpAt N [] ad.block) := Lib.hid (fun g hg ad hd hf => by
          simp only [Option.some.injEq] at hd
          subst hd
          have h1 : g < w7.heap.size := (HTA7.out.tm.fp_lt hf).2
          omega)
        have HTX : Hid (∀ w', Tch [] w7 w' → w'.heap[wr.heap.size + 1]? = some (.cells #[.bool true, .slice none 0 0, .int .i64 0, .int .i64 0] 33)) := Lib.hid (fun w' t => t.obj HSB.out.2 (by simp))
        cases hpp : parseP holes with
        | none =>
          have HC := Lib.hid (fun w' (t : Tch [] w7 w') a c => Calls.mono (DeleteMatch_bad w' w.heap.size tb root N (HTA7.out.tch t) bytes a c holes HHL.out (HTB7.out.tch t) HSM.out hpp id) (fun e w'' (hh : (∃ t p, e = .returned (.iface t p)) ∧ Tch [] w' w'') => (⟨hh.1, went_same HTA7.out (t.trans hh.2) rfl, (t.trans hh.2).obj HSB.out.1 (by simp), (t.trans hh.2).obj HSB.out.2 (by simp)⟩ : (∃ t p, e = .returned (.iface t p)) ∧ Went w7 w.heap.size tb root N (cont N) w'' N ∧ w''.heap[wr.heap.size]? = some (.cells #[.int .i64 3, .slice ba bytes.length bc, .string (bs holes), .int .u64 id] 28 (0, 0)) ∧ w''.heap[wr.heap.size + 1]? = some (.cells #[.bool true, .slice none 0 0, .int .i64 0, .int .i64 0] 33 (0, 0)))))
          have HST : Hid (stepT (standT (L.take k)) ⟨3, bytes, holes, id⟩ = (standT (L.take k), ⟨false, [], 0, 0⟩)) := Lib.hid (by simp [stepT, holesD, hpp])
          clear hpp
          go_wp2_with fail
          go_region_held3 (fun w' => w'.cell? ⟨wr.heap.size, 0, none⟩ = some (.int .i64 3) ∧ w'.cell? ⟨wr.heap.size, 1, none⟩ = some (.slice ba bytes.length bc) ∧ w'.cell? ⟨wr.heap.size, 2, none⟩ = some (.string (bs holes)) ∧ w'.cell? ⟨wr.heap.size, 3, none⟩ = some (.int .u64 id)) (go_keep)
            (first
              | (go_at_call 28; (with_reducible refine (HMA.out _ ?_).mono ?_); (repeat (first | exact Tch.refl _ _ | exact Hid.out (by assumption) | refine Tch.drew ?_ | refine Tch.alloc ?_ _)); rintro e w5 ⟨g', c', rfl, q1, q2, q3⟩
                 have T5 : Hid (Tch [] w7 w5) := Tch.trans (by (repeat (first | exact Tch.refl _ _ | exact Hid.out (by assumption) | refine Tch.drew ?_ | refine Tch.alloc ?_ _))) q3
                 have HGW : Hid (w7.heap.size ≤ g') := Lib.hid (Nat.le_trans (Tch.size (S := []) (by (repeat (first | exact Tch.refl _ _ | exact Hid.out (by assumption) | refine Tch.drew ?_ | refine Tch.alloc ?_ _)))) q2)
                 have HQ1 := Lib.hid q1
                 clear q1 q2 q3 s0 s1 s2 s3
                 obtain ⟨s0, s1, s2, s3⟩ := HS.out w5 T5.out)
              | (go_at_call 30; (with_reducible refine (HC.out _ ?_ (some ⟨g', 0, none⟩) c').mono ?_); (repeat (first | exact Tch.refl _ _ | exact Hid.out (by assumption) | refine Tch.drew ?_ | refine Tch.alloc ?_ _)); rintro e w6 ⟨⟨et, ep, rfl⟩, hW, hsb, htb⟩
                 have HBX := Lib.hid htb
                 have HW := Lib.hid hW
                 clear s0 s1 s2 s3
                 obtain ⟨s0, s1, s2, s3⟩ := tol_cells hsb
                 clear hW hsb htb
                 have f0 := frozen_of (j := 0) HBX.out
                 obtain ⟨c0, c1, c2, c3⟩ := tol_cells HBX.out))
          have hz := heap_setCell_same w6 (wr.heap.size + 1) 0 _ _ (.bool false) HBX.out
          simp only [Array.setIfInBounds] at hz
          have HTS : Hid (Tch [wr.heap.size + 1] w6 (w6.setCell ⟨wr.heap.size + 1, 0, none⟩ (.bool false))) := Lib.hid ((Tch.refl _ _).setCell (p := ⟨wr.heap.size + 1, 0, none⟩) (fun _ => by simp) _)
          generalize w6.setCell ⟨wr.heap.size + 1, 0, none⟩ (.bool false) = wz at *
          have HZB : Hid (wz.heap[wr.heap.size + 1]? = some (.cells #[.bool false, .slice none 0 0, .int .i64 0, .int .i64 0] 33 (0, 0))) := Lib.hid (by simpa using hz)
          clear hz s0 s1 s2 s3 c0 c1 c2 c3 f0
          obtain ⟨c0, c1, c2, c3⟩ := tol_cells HZB.out
          have HD : Hid (Done w wz tb root L k ⟨_, bytes, holes, id⟩ oa oc _ outs ⟨false, [], 0, 0⟩ (.slice none 0 0)) := Lib.hid (done_of HM.out HT07.out HW.out (by rw [HST.out]; exact HM.out.ct) HTS.out HBX.out (by omega) (World.ownsRow_nil _ _ _ _) (by simp [Value.ownBlock]) (by rw [HST.out]))
          have HA9 := Lib.hid (HAP.out w wz (.slice oa k oc) k (outs.flatMap tolC) ⟨false, [], 0, 0⟩ (.slice none 0 0) (by first | rfl | exact HVI.out) (by have := HD.out.out.row; rw [HLEN.out] at this; exact this) (by have := HLL.out; have := HLT.out; omega))
          simp only [] at HA9
          go_wp2_with (at_builtin; refine wpList_append_run rfl (.tmp 78) (.tmp 80) 29 rfl (.slice oa k oc) (.slice (some ⟨wz.heap.size, 0, none⟩) 1 1) (by simp [Act.eval]) (by simp [Act.eval]) _ HA9.out ?_; rintro vv w9 ⟨g9, c9, rfl, n1, n2, n3, n4, n5⟩; have HN1 := Lib.hid n1; have HN4 := Lib.hid n4; clear n1 n2 n3 n4 n5)
          go_roundg (L.length - (k + 1))
          case rel => exact ⟨k + 1, _, _, _, _, by have := HLT.out; omega, rfl, rfl, by go_num, HD.out.next HPE.out HLT.out HN1.out HN4.out⟩
          case measure => have := HLT.out; omega
        | some nf =>
          obtain ⟨n, f⟩ := nf
          have HSF : Hid (¬ fpAt N [] wr.heap.size ∧ ¬ fpAt N [] (wr.heap.size + 1)) := Lib.hid ⟨HTA7.out.tm.other HSB.out.1 (by decide) (by decide), HTA7.out.tm.other HSB.out.2 (by decide) (by decide)⟩
          have HC := Lib.hid (fun w' (t : Tch [] w7 w') g c (hg : w7.heap.size ≤ g) (hb : By w' bytes (some ⟨g, 0, none⟩) c) => Calls.mono (DeleteMatch_any w' w.heap.size tb root N (HTA7.out.tch t) bytes _ c hb (HXG.out g hg) HB20.out holes HHL.out (HTB7.out.tch t) HSM.out n f hpp id _ (depth_of HM.out.ct)) (fun e w'' (hh : e = .returned .nilIface ∧ ∃ N', Went w' w.heap.size tb root N (pruneC (delC (cont N) (pathOf f bytes) id) []) w'' N') => (⟨hh.1, hh.2.elim fun N' hW => ⟨N', hW.from t, hW.t.obj (t.obj HSB.out.1 (by simp)) HSF.out.1, hW.t.obj (t.obj HSB.out.2 (by simp)) HSF.out.2⟩⟩ : e = .returned .nilIface ∧ ∃ N', Went w7 w.heap.size tb root N (pruneC (delC (cont N) (pathOf f bytes) id) []) w'' N' ∧ w''.heap[wr.heap.size]? = some (.cells #[.int .i64 3, .slice ba bytes.length bc, .string (bs holes), .int .u64 id] 28 (0, 0)) ∧ w''.heap[wr.heap.size + 1]? = some (.cells #[.bool true, .slice none 0 0, .int .i64 0, .int .i64 0] 33 (0, 0)))))
          have HST : Hid (stepT (standT (L.take k)) ⟨3, bytes, holes, id⟩ = (strikeS (standT (L.take k)) (pathOf f bytes) id, ⟨true, [], 0, 0⟩)) := Lib.hid (by simp [stepT, holesD, hpp])
          clear hpp
          go_wp2_with fail
          go_region_held3 (fun w' => w'.cell? ⟨wr.heap.size, 0, none⟩ = some (.int .i64 3) ∧ w'.cell? ⟨wr.heap.size, 1, none⟩ = some (.slice ba bytes.length bc) ∧ w'.cell? ⟨wr.heap.size, 2, none⟩ = some (.string (bs holes)) ∧ w'.cell? ⟨wr.heap.size, 3, none⟩ = some (.int .u64 id)) (go_keep)
            (first
              | (go_at_call 28; (with_reducible refine (HMA.out _ ?_).mono ?_); (repeat (first | exact Tch.refl _ _ | exact Hid.out (by assumption) | refine Tch.drew ?_ | refine Tch.alloc ?_ _)); rintro e w5 ⟨g', c', rfl, q1, q2, q3⟩
                 have T5 : Hid (Tch [] w7 w5) := Tch.trans (by (repeat (first | exact Tch.refl _ _ | exact Hid.out (by assumption) | refine Tch.drew ?_ | refine Tch.alloc ?_ _))) q3
                 have HGW : Hid (w7.heap.size ≤ g') := Lib.hid (Nat.le_trans (Tch.size (S := []) (by (repeat (first | exact Tch.refl _ _ | exact Hid.out (by assumption) | refine Tch.drew ?_ | refine Tch.alloc ?_ _)))) q2)
                 have HQ1 := Lib.hid q1
                 clear q1 q2 q3 s0 s1 s2 s3
                 obtain ⟨s0, s1, s2, s3⟩ := HS.out w5 T5.out)
              | (go_at_call 30; (with_reducible refine (HC.out _ ?_ g' c' HGW.out ?_).mono ?_); (repeat (first | exact Tch.refl _ _ | exact Hid.out (by assumption) | refine Tch.drew ?_ | refine Tch.alloc ?_ _)); (try (exact By.tch (w := w5) HQ1.out (by (repeat (first | exact Tch.refl _ _ | exact Hid.out (by assumption) | refine Tch.drew ?_ | refine Tch.alloc ?_ _))))); rintro e w6 ⟨rfl, N', hW, hsb, htb⟩
                 have HBX := Lib.hid htb
                 have HW := Lib.hid hW
                 clear s0 s1 s2 s3
                 obtain ⟨s0, s1, s2, s3⟩ := tol_cells hsb
                 clear hW hsb htb
                 have f0 := frozen_of (j := 0) HBX.out
                 obtain ⟨c0, c1, c2, c3⟩ := tol_cells HBX.out))
          have hz := heap_setCell_same w6 (wr.heap.size + 1) 0 _ _ (.bool true) HBX.out
          simp only [Array.setIfInBounds] at hz
          have HTS : Hid (Tch [wr.heap.size + 1] w6 (w6.setCell ⟨wr.heap.size + 1, 0, none⟩ (.bool true))) := Lib.hid ((Tch.refl _ _).setCell (p := ⟨wr.heap.size + 1, 0, none⟩) (fun _ => by simp) _)
          generalize w6.setCell ⟨wr.heap.size + 1, 0, none⟩ (.bool true) = wz at *
          have HZB : Hid (wz.heap[wr.heap.size + 1]? = some (.cells #[.bool true, .slice none 0 0, .int .i64 0, .int .i64 0] 33 (0, 0))) := Lib.hid (by simpa using hz)
          clear hz s0 s1 s2 s3 c0 c1 c2 c3 f0
          obtain ⟨c0, c1, c2, c3⟩ := tol_cells HZB.out
          have HD : Hid (Done w wz tb root L k ⟨_, bytes, holes, id⟩ oa oc _ outs ⟨true, [], 0, 0⟩ (.slice none 0 0)) := Lib.hid (done_of HM.out HT07.out HW.out (by rw [HST.out]; rw [HM.out.ct]; exact Cst_strike _ _ _) HTS.out HBX.out (by omega) (World.ownsRow_nil _ _ _ _) (by simp [Value.ownBlock]) (by rw [HST.out]))
          have HA9 := Lib.hid (HAP.out w wz (.slice oa k oc) k (outs.flatMap tolC) ⟨true, [], 0, 0⟩ (.slice none 0 0) (by first | rfl | exact HVI.out) (by have := HD.out.out.row; rw [HLEN.out] at this; exact this) (by have := HLL.out; have := HLT.out; omega))
          simp only [] at HA9
          go_wp2_with (at_builtin; refine wpList_append_run rfl (.tmp 78) (.tmp 80) 29 rfl (.slice oa k oc) (.slice (some ⟨wz.heap.size, 0, none⟩) 1 1) (by simp [Act.eval]) (by simp [Act.eval]) _ HA9.out ?_; rintro vv w9 ⟨g9, c9, rfl, n1, n2, n3, n4, n5⟩; have HN1 := Lib.hid n1; have HN4 := Lib.hid n4; clear n1 n2 n3 n4 n5)
          go_roundg (L.length - (k + 1))
          case rel => exact ⟨k + 1, _, _, _, _, by have := HLT.out; omega, rfl, rfl, by go_num, HD.out.next HPE.out HLT.out HN1.out HN4.out⟩
          case measure => have := HLT.out; omega
      by_cases k4 : kd = 4
      · subst k4
        clear k0 k1 k2 k3
        have HST : Hid (stepT (standT (L.take k)) ⟨4, bytes, holes, id⟩ = (standT (L.take k), ⟨true, idsFor (standT (L.take k)) bytes, (idsFor (standT (L.take k)) bytes).length, 0⟩)) := Lib.hid (by simp [stepT])
        have HC := Lib.hid (fun w' (t : Tch [] w7 w') => IDs_any w' w.heap.size tb root N (HTA7.out.tch t) bytes _ c7 (HB7.out.tch t) HB20.out ((standT (L.take k)).map (·.2)) (fun x hx => by
          rw [HM.out.ct, Cst_found] at hx
          obtain ⟨y, hy, e, -⟩ := hx
          exact List.mem_map.2 ⟨y, hy, e⟩) (by
          rw [List.length_map]
          have h2 := HSZ.out.1
          have h3 := HLL.out
          have h4 := HLT.out
          omega))
        have HG := Lib.hid (fun w' (t : Tch [] w7 w') => Get_any w' w.heap.size tb root N (HTA7.out.tch t) bytes _ c7 (HB7.out.tch t) HB20.out)
        have HT8 := Lib.hid ((Tch.refl [] w7).alloc (.cells #[] 26))
        have HB8 := Lib.hid (heap_alloc_new w7 (.cells #[] 26))
        have HT78 : Hid (w7.heap.size < (w7.alloc (.cells #[] 26)).heap.size) := Lib.hid (by simp)
        go_wp2_with fail
        refine (HC.out _ HT8.out).mono ?_
        rintro e w8 ⟨ia, il, ic, l, rfl, q1, q2, q3, q4, q5⟩
        have HLI : Hid (l = idsFor (standT (L.take k)) bytes ∧ l.length = il) := Lib.hid ⟨idsFor_of q2 q3 (fun x => by rw [q4 x, HM.out.ct]), by have := q1.1; unfold uV at this; simp at this; omega⟩
        have HIL : Hid (il ≤ 1000000) := Lib.hid (by
          have h1 := nodup_sub (S := (standT (L.take k)).map (·.2)) q3 (fun x hx => by
            rw [q4 x, HM.out.ct, Cst_found] at hx
            obtain ⟨y, hy, e, -⟩ := hx
            exact List.mem_map.2 ⟨y, hy, e⟩)
          rw [List.length_map] at h1
          have h0 := HLI.out.2
          have h2 := HSZ.out.1
          have h3 := HLL.out
          have h4 := HLT.out
          omega)
        have HNL : Hid (l.Nodup ∧ ∀ x, x ∈ l ↔ Found (cont N) [] bytes x) := Lib.hid ⟨q3, q4⟩
        have HT88 := Lib.hid (HT8.out.trans q5)
        have HCI := Lib.hid (copy_ids w8 w7.heap.size (q5.obj HB8.out (by simp)) ia il ic l q1 HIL.out)
        have HTX8 := Lib.hid ((HT8.out.trans q5).obj HSB.out.2 (by simp))
        clear q1 q2 q3 q4 q5 HC s0 s1 s2 s3
        obtain ⟨c0, c1, c2, c3⟩ := tol_cells HTX8.out
        have HST2 : Hid (∀ w9 gi ci, w9.ownsRow w7.heap.size 26 1 (.slice (some ⟨gi, 0, none⟩) il ci) il (uV l) → Tch [w7.heap.size] w8 w9 → w9.cell? ⟨wr.heap.size + 1, 1, none⟩ = some (.slice none 0 0) ∧ w9.frozen? ⟨wr.heap.size + 1, 1, none⟩ = false ∧ w9.heap[wr.heap.size + 1]? = some (.cells #[.bool true, .slice none 0 0, .int .i64 0, .int .i64 0] 33 (0, 0)) ∧ Tch [] w7 w9) := Lib.hid (fun w9 gi ci r1 r2 => by
          have hx := lt_of_obj HSB.out.2
          have h0 := r2.obj HTX8.out (by simp; omega)
          exact ⟨by rw [cell_of_row w9 _ 1 _ _ _ h0]; rfl, frozen_of h0, h0, HT88.out.then r2 (fun i hi hm => by have := List.mem_singleton.1 hm; omega)⟩)
        go_upto_region 19 with (at_builtin; refine wpList_append_run rfl (.tmp 62) (.tmp 65) 31 rfl (.slice (some ⟨w7.heap.size, 0, none⟩) 0 0) (.slice ia il ic) (by simp [Act.eval]) (by simp [Act.eval]) _ HCI.out ?_; rintro vv w9 ⟨gi, ci, rfl, r1, r2, r3⟩; obtain ⟨d1, d2, d3, d4⟩ := HST2.out w9 gi ci r1 r3; have HR1 := Lib.hid r1; have HR2 := Lib.hid r2; have HD3 := Lib.hid d3; have HD4 := Lib.hid d4; clear r1 r2 r3 d3 d4)
        have hz := heap_setCell_same w9 (wr.heap.size + 1) 1 _ _ (.slice (some ⟨gi, 0, none⟩) il ci) HD3.out
        simp only [Array.setIfInBounds] at hz
        have HTS : Hid (Tch [wr.heap.size + 1] w9 (w9.setCell ⟨wr.heap.size + 1, 1, none⟩ (.slice (some ⟨gi, 0, none⟩) il ci))) := Lib.hid ((Tch.refl _ _).setCell (p := ⟨wr.heap.size + 1, 1, none⟩) (fun _ => by simp) _)
        clear d1 d2 c0 c1 c2 c3
        generalize w9.setCell ⟨wr.heap.size + 1, 1, none⟩ (.slice (some ⟨gi, 0, none⟩) il ci) = wa at *
        have HZA : Hid (wa.heap[wr.heap.size + 1]? = some (.cells #[.bool true, .slice (some ⟨gi, 0, none⟩) il ci, .int .i64 0, .int .i64 0] 33 (0, 0))) := Lib.hid (by simpa using hz)
        clear hz
        have HG2 : Hid (Calls Tryz.prog 32 #[ptr tb, .slice (some ⟨g7, 0, none⟩) bytes.length c7] wa (Got (Found (cont N) [] bytes) wa)) := Lib.hid (by
          have hW := went_same HTA7.out HD4.out rfl
          have hfr : ¬ fpAt N [] (wr.heap.size + 1) := hW.tr.tm.other HD3.out (by decide) (by decide)
          have tF : Tof (fun k => k = wr.heap.size + 1) w9 wa := Tof.of_tch HTS.out (fun k hk _ => by simpa using hk)
          refine Get_any wa w.heap.size tb root N ⟨hW.tr.tm.tof tF (fun q r hq k hk e => hfr ⟨q, r, by simpa using hq, by rw [← e]; exact hk⟩), tF.obj hW.tr.top (fun e => by
            have := hW.tr.top
            rw [e, HD3.out] at this; simp at this), hW.tr.lo⟩ bytes _ c7 ((HB7.out.tch HD4.out).tof tF (fun ad hd e => ?_)) HB20.out
          simp only [Option.some.injEq] at hd
          subst hd
          have h2 := HG7.out
          simp at h2
          simp at e
          omega)
        go_wp2_with fail
        refine HG2.out.mono ?_
        rintro e wb ⟨mm, LL, rfl, k1, k2, k3, k4⟩
        have hlen := fun ty => k1.len (P := Tryz.prog) (t := 59) (k := 26) (e := 101) Tryz.underlying59 ty
        have HLE : Hid (LL.length = il) := Lib.hid (by
          have hp : (keysL LL).Perm l := (List.perm_ext_iff_of_nodup k1.nodup HNL.out.1).2 (fun x => by show x ∈ keysL LL ↔ x ∈ l; rw [k2 x, HNL.out.2 x])
          have := hp.length_eq
          unfold keysL at this
          rw [List.length_map, HLI.out.2] at this
          exact this)
        rw [HLE.out] at hlen
        have HTB9 := Lib.hid (HTS.out.trans (k3.mono (T := [wr.heap.size + 1]) (by simp)))
        have HBX := Lib.hid (k3.obj HZA.out (by simp))
        have hilI : (il : Int) ≤ 1000000 := by have := HIL.out; omega
        clear k1 k2 k3 k4
        obtain ⟨c0, c1, c2, c3⟩ := tol_cells HBX.out
        have f0 := frozen_of (j := 2) HBX.out
        go_upto_region 22 with (fail)
        have hz := heap_setCell_same wb (wr.heap.size + 1) 2 _ _ (.int .i64 (il : Int)) HBX.out
        simp only [Array.setIfInBounds] at hz
        have HTS2 : Hid (Tch [wr.heap.size + 1] wb (wb.setCell ⟨wr.heap.size + 1, 2, none⟩ (.int .i64 (il : Int)))) := Lib.hid ((Tch.refl _ _).setCell (p := ⟨wr.heap.size + 1, 2, none⟩) (fun _ => by simp) _)
        generalize wb.setCell ⟨wr.heap.size + 1, 2, none⟩ (.int .i64 (il : Int)) = wz at *
        have HZB : Hid (wz.heap[wr.heap.size + 1]? = some (.cells #[.bool true, .slice (some ⟨gi, 0, none⟩) il ci, .int .i64 (il : Int), .int .i64 0] 33 (0, 0))) := Lib.hid (by simpa using hz)
        clear hz c0 c1 c2 c3 f0 hlen
        obtain ⟨c0, c1, c2, c3⟩ := tol_cells HZB.out
        have HVI : Hid ((Value.slice (some ⟨gi, 0, none⟩) il ci).oneCell' = true) := Lib.hid rfl
        have HD : Hid (Done w wz tb root L k ⟨4, bytes, holes, id⟩ oa oc N outs ⟨true, idsFor (standT (L.take k)) bytes, (il : Int), 0⟩ (.slice (some ⟨gi, 0, none⟩) il ci)) := Lib.hid (by
          have tS := HTB9.out.trans HTS2.out
          have hrow := tS.own HR1.out (fun g hg hm => by
            obtain ⟨cur, hc⟩ := ownsRow_block HR1.out hg
            rw [List.mem_singleton.1 hm, HD3.out] at hc; simp at hc)
          refine done_of HM.out HT07.out (went_same HTA7.out HD4.out rfl) (by rw [HST.out]; exact HM.out.ct) tS HD3.out (by omega) ?_ (fun g hg hf => ?_) (by rw [HST.out, ← HLI.out.1, HLI.out.2])
          · rw [← HLI.out.1, HLI.out.2]
            exact ownsRow_low hrow (Nat.le_trans HTW.out.size HT07.out.size)
          · simp only [Value.ownBlock, Option.some.injEq] at hg
            subst hg
            have h1 := (HTA7.out.tm.fp_lt hf).2
            have h2 := HR2.out
            omega)
        have HA9 := Lib.hid (HAP.out w wz (.slice oa k oc) k (outs.flatMap tolC) ⟨true, idsFor (standT (L.take k)) bytes, (il : Int), 0⟩ (.slice (some ⟨gi, 0, none⟩) il ci) (by first | rfl | exact HVI.out) (by have := HD.out.out.row; rw [HLEN.out] at this; exact this) (by have := HLL.out; have := HLT.out; omega))
        simp only [] at HA9
        go_wp2_with (at_builtin; refine wpList_append_run rfl (.tmp 78) (.tmp 80) 29 rfl (.slice oa k oc) (.slice (some ⟨wz.heap.size, 0, none⟩) 1 1) (by simp [Act.eval]) (by simp [Act.eval]) _ HA9.out ?_; rintro vv w9 ⟨g9, c9, rfl, n1, n2, n3, n4, n5⟩; have HN1 := Lib.hid n1; have HN4 := Lib.hid n4; clear n1 n2 n3 n4 n5)
        go_roundg (L.length - (k + 1))
        case rel => exact ⟨k + 1, _, _, _, _, by have := HLT.out; omega, rfl, rfl, by go_num, HD.out.next HPE.out HLT.out HN1.out HN4.out⟩
        case measure => have := HLT.out; omega
      by_cases k5 : kd = 5
      · subst k5
        clear k0 k1 k2 k3 k4
        have HST : Hid (stepT (standT (L.take k)) ⟨5, bytes, holes, id⟩ = (standT (L.take k), ⟨true, [], 0, (nodesS (standT (L.take k))).length⟩)) := Lib.hid (by simp [stepT])
        have HC := Lib.hid (Nodes_any w7 w.heap.size tb root N HTA7.out (nodesS (standT (L.take k))) (nodesS_nodup _) (fun p => by rw [nodesS_mem, HM.out.ct, isNode_of]) (by
          have h1 := nodesS_len (standT (L.take k))
          have h2 := HSZ.out
          have h3 := HLL.out
          have h4 := HLT.out
          omega))
        generalize (nodesS (standT (L.take k))).length = nn at *
        go_wp2_with fail
        refine HC.out.mono ?_
        rintro e w6 ⟨rfl, t6⟩
        have HW := Lib.hid (went_same HTA7.out t6 rfl)
        have HBX := Lib.hid (t6.obj HSB.out.2 (by simp))
        clear t6
        have f0 := frozen_of (j := 3) HBX.out
        obtain ⟨c0, c1, c2, c3⟩ := tol_cells HBX.out
        go_upto_region 22 with (fail)
        have hz := heap_setCell_same w6 (wr.heap.size + 1) 3 _ _ (.int .i64 (nn : Int)) HBX.out
        simp only [Array.setIfInBounds] at hz
        have HTS : Hid (Tch [wr.heap.size + 1] w6 (w6.setCell ⟨wr.heap.size + 1, 3, none⟩ (.int .i64 (nn : Int)))) := Lib.hid ((Tch.refl _ _).setCell (p := ⟨wr.heap.size + 1, 3, none⟩) (fun _ => by simp) _)
        generalize w6.setCell ⟨wr.heap.size + 1, 3, none⟩ (.int .i64 (nn : Int)) = wz at *
        have HZB : Hid (wz.heap[wr.heap.size + 1]? = some (.cells #[.bool true, .slice none 0 0, .int .i64 0, .int .i64 (nn : Int)] 33 (0, 0))) := Lib.hid (by simpa using hz)
        clear hz s0 s1 s2 s3 c0 c1 c2 c3 f0
        obtain ⟨c0, c1, c2, c3⟩ := tol_cells HZB.out
        have HD : Hid (Done w wz tb root L k ⟨_, bytes, holes, id⟩ oa oc _ outs ⟨true, [], 0, (nn : Int)⟩ (.slice none 0 0)) := Lib.hid (done_of HM.out HT07.out HW.out (by rw [HST.out]; exact HM.out.ct) HTS.out HBX.out (by omega) (World.ownsRow_nil _ _ _ _) (by simp [Value.ownBlock]) (by rw [HST.out]))
        have HA9 := Lib.hid (HAP.out w wz (.slice oa k oc) k (outs.flatMap tolC) ⟨true, [], 0, (nn : Int)⟩ (.slice none 0 0) (by first | rfl | exact HVI.out) (by have := HD.out.out.row; rw [HLEN.out] at this; exact this) (by have := HLL.out; have := HLT.out; omega))
        simp only [] at HA9
        go_wp2_with (at_builtin; refine wpList_append_run rfl (.tmp 78) (.tmp 80) 29 rfl (.slice oa k oc) (.slice (some ⟨wz.heap.size, 0, none⟩) 1 1) (by simp [Act.eval]) (by simp [Act.eval]) _ HA9.out ?_; rintro vv w9 ⟨g9, c9, rfl, n1, n2, n3, n4, n5⟩; have HN1 := Lib.hid n1; have HN4 := Lib.hid n4; clear n1 n2 n3 n4 n5)
        go_roundg (L.length - (k + 1))
        case rel => exact ⟨k + 1, _, _, _, _, by have := HLT.out; omega, rfl, rfl, by go_num, HD.out.next HPE.out HLT.out HN1.out HN4.out⟩
        case measure => have := HLT.out; omega
      have HST : Hid (stepT (standT (L.take k)) ⟨kd, bytes, holes, id⟩ = (standT (L.take k), ⟨true, [], 0, 0⟩)) := Lib.hid (by simp [stepT, k0, k1, k2, k3, k4, k5])
      have HD : Hid (Done w w7 tb root L k ⟨kd, bytes, holes, id⟩ oa oc N outs ⟨true, [], 0, 0⟩ (.slice none 0 0)) := Lib.hid (done_of HM.out HT07.out (went_same HTA7.out (Tch.refl [] w7) rfl) (by rw [HST.out]; exact HM.out.ct) (Tch.refl [wr.heap.size + 1] w7) HSB.out.2 (by omega) (World.ownsRow_nil _ _ _ _) (by simp [Value.ownBlock]) (by rw [HST.out]))
      obtain ⟨c0, c1, c2, c3⟩ := tol_cells HSB.out.2
      have b0 : (kd == 0) = false := by simpa using k0
      have b1 : (kd == 1) = false := by simpa using k1
      have b2 : (kd == 2) = false := by simpa using k2
      have b3 : (kd == 3) = false := by simpa using k3
      have b4 : (kd == 4) = false := by simpa using k4
      have b5 : (kd == 5) = false := by simpa using k5
      clear k0 k1 k2 k3 k4 k5
      have HA9 := Lib.hid (HAP.out w w7 (.slice oa k oc) k (outs.flatMap tolC) ⟨true, [], 0, 0⟩ (.slice none 0 0) (by first | rfl | exact HVI.out) (by have := HD.out.out.row; rw [HLEN.out] at this; exact this) (by have := HLL.out; have := HLT.out; omega))
      simp only [] at HA9
      go_wp2_with (at_builtin; refine wpList_append_run rfl (.tmp 78) (.tmp 80) 29 rfl (.slice oa k oc) (.slice (some ⟨w7.heap.size, 0, none⟩) 1 1) (by simp [Act.eval]) (by simp [Act.eval]) _ HA9.out ?_; rintro vv w9 ⟨g9, c9, rfl, n1, n2, n3, n4, n5⟩; have HN1 := Lib.hid n1; have HN4 := Lib.hid n4; clear n1 n2 n3 n4 n5)
      go_roundg (L.length - (k + 1))
      case rel => exact ⟨k + 1, _, _, _, _, by have := HLT.out; omega, rfl, rfl, by go_num, HD.out.next HPE.out HLT.out HN1.out HN4.out⟩
      case measure => have := HLT.out; omega
    · obtain rfl : k = L.length := by omega
      clear hlt hk
      go_wp2_with fail
      go_ret
      have hm := HM.out
      exact ⟨oa, oc, N, outs, rfl, hm.out, by rw [hm.told, List.take_length]⟩

end Go.Proofs.YtcolffccbmpndaaGreatDoor

