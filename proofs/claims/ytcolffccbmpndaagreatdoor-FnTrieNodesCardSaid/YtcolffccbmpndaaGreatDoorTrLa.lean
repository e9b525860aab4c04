/- Appends of many steps and of bytes. -/
import Derived.Test.YtcolffccbmpndaaGreatDoorTrOa
namespace Go.Proofs.YtcolffccbmpndaaGreatDoor
open Go.RowKit Go.Deep
set_option maxRecDepth 100000
theorem append_none_any {P : Program} {w : World} {base : Nat} {size : Nat} (t ty e : TypeId) (i : TypeInfo) (ht : P.underlying t = some (.slice e)) (hi : P.info? e = some i)
    (v : Value) (n cz : Nat) (xs : List Value) (hown : w.ownsRow base e size v n xs) :
    (Builtin.append_ #[t, t] ty #[v, .slice none 0 cz]).run P w = .ok v w := by
  rcases hown.2 with ⟨rfl, rfl⟩ | ⟨g, cap, cur, rfl, _, _, hnc, _⟩
  · simp [Builtin.append_, run_underlying ht, sizeOf, typeInfo, hi, Builtin.lenOf, Builtin.firstCells]
  · simp [Builtin.append_, run_underlying ht, sizeOf, typeInfo, hi, Builtin.lenOf, Builtin.firstCells, hnc, storeCells]

/-- A slice's elements more, wherever they stand. -/
theorem own_apps_any {t e ty : TypeId} {i0 : TypeInfo} {z : Value} {sz bytes : Nat} (u : Tryz.prog.underlying t = some (.slice e)) (hi : Tryz.prog.info? e = some i0) (hz : i0.zero = some z) (hsz : i0.size = sz) (hby : i0.bytes = bytes) (hzs : z.cells.size = sz) (hpos : 0 < sz) (hb : bytes ≤ 1000)
    {w0 w : World} {v : Value} {n : Nat} {xs : List Value} (so : Option Addr) (m c : Nat) (news : List Value) (h : Own w0 w e sz v n xs) (hn : n + m ≤ 100000000) (hl : news.length = m * sz) (hc : ∀ j x, news[j]? = some x → ∃ ad, so = some ad ∧ w.cell? (ad.add j) = some x) (h1 : ∀ x ∈ news, x.oneCell' = true) :
    ∃ v' w', (Builtin.append_ #[t, t] ty #[v, .slice so m c]).run Tryz.prog w = .ok v' w' ∧ Own w0 w' e sz v' (n + m) (xs ++ news) ∧ Tch v.ownBlock.toList w w' := by
  cases so with
  | some ad =>
    exact own_apps u hi hz hsz hby hzs hpos hb ad m c news h hn hl (fun j x hx => by
      obtain ⟨ad', e1, e2⟩ := hc j x hx
      obtain rfl := Option.some.inj e1
      exact e2) h1
  | none =>
    have hnil : news = [] := by
      cases news with
      | nil => rfl
      | cons x l => obtain ⟨ad, e1, -⟩ := hc 0 x rfl; simp at e1
    subst hnil
    have hm : m = 0 := by
      rcases Nat.mul_eq_zero.1 hl.symm with h | h
      · exact h
      · omega
    subst hm
    refine ⟨v, w, append_none_any t ty e i0 u hi v n c xs h.row, ?_, Tch.refl _ _⟩
    simpa using h

theorem flat_len4 (U : List StepV) : (U.flatMap stC).length = U.length * 4 := by
  induction U with
  | nil => rfl
  | cons x l ih => rw [List.flatMap_cons, List.length_append, ih, List.length_cons]; simp only [stC, List.length_cons, List.length_nil]; omega
theorem RowV.appsN {w0 w : World} {a : Option Addr} {c : Nat} {V U : List StepV} (h : RowV w0 w a c V) (so : Option Addr) (cz : Nat) (hU : VAt w so U) (hU0 : ∀ x ∈ U, By w0 x.s.bytes x.a x.c) (hl : V.length + U.length ≤ 10000) :
    ∃ v' w', (Builtin.append_ #[22, 22] 22 #[.slice a V.length c, .slice so U.length cz]).run Tryz.prog w = .ok v' w' ∧ ∃ a' c', v' = .slice a' (V.length + U.length) c' ∧ RowV w0 w' a' c' (V ++ U) ∧ Tch (Value.slice a V.length c).ownBlock.toList w w' := by
  obtain ⟨i0, hinf, hz0, hz1, hz2⟩ := info_parts Tryz.infoStep
  obtain ⟨v', w', hr, ho, ht⟩ := own_apps_any (ty := 22) Tryz.underlying22 hinf hz0 hz1 hz2 rfl (by decide) (by decide) so U.length cz (U.flatMap stC) h.own (by omega) (flat_len4 U) (fun j u hu => by
    have hj : j < (U.flatMap stC).length := (List.getElem?_eq_some_iff.1 hu).1
    rw [flat_len4 U] at hj
    have hi : j / 4 < U.length := by omega
    have hx : U[j / 4]? = some U[j / 4] := List.getElem?_eq_getElem hi
    obtain ⟨ad, rfl, ⟨h0, h1, h2, h3⟩, -⟩ := hU _ _ hx
    refine ⟨ad, rfl, ?_⟩
    have hf := flat_at stC 4 (fun _ => rfl) U (j / 4) (j % 4) _ hx (by omega)
    rw [show j / 4 * 4 + j % 4 = j from by omega, hu] at hf
    have hsp : ∀ r, 0 < r → ad.add (j / 4 * 4 + r) = ⟨(ad.add (j / 4 * 4)).block, (ad.add (j / 4 * 4)).off + r, none⟩ := fun r hr => by
      unfold Addr.add
      rw [if_neg (by omega)]
      split
      · rename_i e; simp
      · simp [Nat.add_assoc]
    have hj4 : j % 4 < 4 := by omega
    have he : j = j / 4 * 4 + j % 4 := by omega
    generalize j % 4 = r at hf hj4 he
    rw [he]
    match r, hj4 with
    | 0, _ => rw [Nat.add_zero, h0]; rw [hf]; rfl
    | 1, _ => rw [hsp 1 (by omega), h1]; rw [hf]; rfl
    | 2, _ => rw [hsp 2 (by omega), h2]; rw [hf]; rfl
    | 3, _ => rw [hsp 3 (by omega), h3]; rw [hf]; rfl) (by
      intro u hu
      obtain ⟨x, -, hx⟩ := List.mem_flatMap.1 hu
      simp [stC] at hx
      rcases hx with rfl | rfl | rfl | rfl <;> rfl)
  obtain ⟨a', c', e⟩ := ownsRow_slice ho.row
  subst e
  refine ⟨_, w', hr, a', c', rfl, ⟨?_, fun z hz => ?_⟩, ht⟩
  · rw [List.length_append, List.flatMap_append]
    exact ho
  · rcases List.mem_append.1 hz with hz | hz
    · exact h.by0 z hz
    · exact hU0 z hz

theorem Tryz.infoByteL : (Tryz.prog.info? 5).map (fun i => (i.zero, i.size, i.bytes)) = some (some (.int .u8 0), 1, 1) := by kernel_rfl
/-- Bytes of one's own. -/
def u8V (l : List Int) : List Value := l.map (Value.int .u8)
theorem own_bytes_apps {w0 w : World} {a : Option Addr} {c : Nat} {l m : List Int} {b : Option Addr} {d : Nat} (h : Own w0 w 5 1 (.slice a l.length c) l.length (u8V l)) (hm : By w m b d) (hl : l.length + m.length ≤ 100000) :
    ∃ v' w', (Builtin.append_ #[23, 23] 23 #[.slice a l.length c, .slice b m.length d]).run Tryz.prog w = .ok v' w' ∧ ∃ a' c', v' = .slice a' (l.length + m.length) c' ∧ Own w0 w' 5 1 (.slice a' (l.length + m.length) c') (l.length + m.length) (u8V (l ++ m)) ∧ Tch (Value.slice a l.length c).ownBlock.toList w w' := by
  obtain ⟨i0, hinf, hz0, hz1, hz2⟩ := info_parts Tryz.infoByteL
  obtain ⟨v', w', hr, ho, ht⟩ := own_apps_any (ty := 23) Tryz.underlying23 hinf hz0 hz1 hz2 rfl (by decide) (by decide) b m.length d (u8V m) h (by omega) (by simp [u8V]) (fun j u hu => by
    have hj : j < m.length := by have := (List.getElem?_eq_some_iff.1 hu).1; simpa [u8V] using this
    cases b with
    | none => have := (hm.nil rfl).2; rw [this] at hj; simp at hj
    | some ad =>
      refine ⟨ad, rfl, ?_⟩
      rw [(hm.cell ad rfl j hj).2]
      simp only [u8V, List.getElem?_map, List.getElem?_eq_getElem hj, Option.map_some, Option.some.injEq] at hu
      rw [← hu]
      simp [List.getD, List.getElem?_eq_getElem hj]) (by
      intro u hu
      obtain ⟨x, -, rfl⟩ := List.mem_map.1 hu
      rfl)
  obtain ⟨a', c', e⟩ := ownsRow_slice ho.row
  subst e
  refine ⟨_, w', hr, a', c', rfl, ?_, ht⟩
  have e : u8V (l ++ m) = u8V l ++ u8V m := by simp [u8V]
  rw [e]
  exact ho
theorem by_of_row {base : Nat} {w : World} {a : Option Addr} {c n : Nat} {l : List Int} (h : w.ownsRow base 5 1 (.slice a n c) n (u8V l)) (hn : l.length = n) (hu : ∀ x ∈ l, 0 ≤ x ∧ x < 256) : By w l a c := by
  subst hn
  have hcell : ∀ ad, a = some ad → ∀ j, j < l.length → ad.block < w.heap.size ∧ w.cell? (ad.add j) = some (.int .u8 (l.getD j 0)) := fun ad e j hj => by
    subst e
    obtain ⟨g, cap, e, -⟩ := ownsRow_value h (by omega)
    simp only [Value.slice.injEq, Option.some.injEq, true_and] at e
    obtain ⟨rfl, rfl⟩ := e
    refine ⟨(h.lt g rfl).2, ?_⟩
    exact (own_cell h (j := j) (u := .int .u8 (l.getD j 0)) (by unfold u8V; simp [List.getD, List.getElem?_eq_getElem hj])).2
  rcases h.2 with ⟨e, hn⟩ | ⟨g, cap, cur, e, -, -, hnc, -⟩
  · simp only [Value.slice.injEq] at e
    obtain ⟨rfl, -, rfl⟩ := e
    exact ⟨by omega, fun _ => ⟨rfl, List.length_eq_zero_iff.1 hn⟩, hcell, hu⟩
  · simp only [Value.slice.injEq, true_and] at e
    obtain ⟨rfl, rfl⟩ := e
    exact ⟨hnc, fun h => by simp at h, hcell, hu⟩

/-- Steps of a row of one's own. -/
theorem steps_own {w0 w : World} {a : Option Addr} {c : Nat} {V : List StepV} (h : Own w0 w 28 4 (.slice a V.length c) V.length (V.flatMap stC)) (hb : ∀ x ∈ V, By w x.s.bytes x.a x.c) : StepsAt w a (V.map (·.s)) := by
  by_cases h0 : V = []
  · subst h0; intro i hi; simp at hi
  · obtain ⟨x, r, hV⟩ := List.exists_cons_of_ne_nil h0
    have hrow := h.row
    obtain ⟨g, cap, e, -, hg⟩ := ownsRow_value hrow (by rw [hV]; simp)
    simp only [Value.slice.injEq, true_and] at e
    obtain ⟨rfl, rfl⟩ := e
    refine steps_of hg (fun i x hx j hj => ?_) hb
    rw [hrow.cellAt (i * 4 + j) (by have := (List.getElem?_eq_some_iff.1 hx).1; omega)]
    exact flat_at stC 4 (fun _ => rfl) V i j x hx hj

theorem stepT_le (st : Stand) (s : StepD) : (stepT st s).1.length ≤ st.length + 1 := by
  have hf : ∀ p id, (strikeS st p id).length ≤ st.length + 1 := fun p id => Nat.le_trans (List.length_filter_le _ _) (by omega)
  unfold stepT
  split
  · split
    · simp
    · simp
  · split
    · split
      · simp
      · exact hf _ _
    · split
      · simp
      · split <;> simp
theorem standT_le (L : List StepD) : (standT L).length ≤ L.length := by
  have h : ∀ (L : List StepD) (st : Stand), (L.foldl (fun st s => (stepT st s).1) st).length ≤ st.length + L.length := by
    intro L
    induction L with
    | nil => intro st; simp
    | cons s L ih =>
      intro st
      have h1 := ih (stepT st s).1
      have h2 := stepT_le st s
      simp only [List.foldl_cons, List.length_cons]
      omega
  have := h L []
  simpa [standT] using this
theorem longer_run2 (L : List StepD) (key more : List Int) : ∃ T i1 i2 i3 m1 m2 m3, T.length = L.length ∧ (∀ x ∈ i1, x ∈ i2) ∧ (1 : Int) ∈ i3 ∧ i1.length ≤ L.length + 1 ∧ i2.length ≤ L.length + 1 ∧ i3.length ≤ L.length + 1 ∧ runT [] (L ++ [⟨4, key, [], 0⟩, ⟨4, key ++ more, [], 0⟩, ⟨0, [], [], 1⟩, ⟨4, key, [], 0⟩]) = T ++ [⟨true, i1, m1, 0⟩, ⟨true, i2, m2, 0⟩, ⟨true, [], 0, 0⟩, ⟨true, i3, m3, 0⟩] := by
  have e1 : ∀ st k, stepT st ⟨4, k, [], 0⟩ = (st, ⟨true, idsFor st k, (idsFor st k).length, 0⟩) := fun st k => by simp [stepT]
  have e2 : ∀ st, stepT st ⟨0, [], [], 1⟩ = (st ++ [([], 1)], ⟨true, [], 0, 0⟩) := fun st => by simp [stepT, holesD, pathOf]
  have hs := standT_le L
  refine ⟨runT [] L, idsFor (standT L) key, idsFor (standT L) (key ++ more), idsFor (standT L ++ [([], 1)]) key, (idsFor (standT L) key).length, (idsFor (standT L) (key ++ more)).length, (idsFor (standT L ++ [([], 1)]) key).length, runT_len _ _, fun x hx => ?_, ?_, ?_, ?_, ?_, ?_⟩
  · rw [idsFor_mem] at hx ⊢
    obtain ⟨y, hy, e, hf⟩ := hx
    exact ⟨y, hy, e, fits_longer _ _ _ hf⟩
  · rw [idsFor_mem]
    exact ⟨([], 1), by simp, rfl, by simp [fitsP]⟩
  · have := idsFor_le (standT L) key; omega
  · have := idsFor_le (standT L) (key ++ more); omega
  · have := idsFor_le (standT L ++ [([], 1)]) key; simp at this; omega
  · rw [runT_append]
    show runT [] L ++ runT (standT L) _ = _
    simp only [runT, e1, e2]

/-- What RunTrie told of the three keys. -/
structure ThreeTold (w : World) (g n : Nat) (i1 i2 i3 : List Int) : Prop where
  sub : ∀ x ∈ i1, x ∈ i2
  one : (1 : Int) ∈ i3
  le1 : i1.length ≤ n + 1
  le2 : i2.length ≤ n + 1
  le3 : i3.length ≤ n + 1
  c1 : ∃ a q, w.cell? ⟨g, n * 4 + 1, none⟩ = some (.slice a i1.length q) ∧ UAt w a i1
  c2 : ∃ a q, w.cell? ⟨g, (n + 1) * 4 + 1, none⟩ = some (.slice a i2.length q) ∧ UAt w a i2
  c3 : ∃ a q, w.cell? ⟨g, (n + 3) * 4 + 1, none⟩ = some (.slice a i3.length q) ∧ UAt w a i3
abbrev longV (V : List StepV) (key more : List Int) (ka : Option Addr) (kc : Nat) (ma : Option Addr) (mc : Nat) : List StepV := V ++ [⟨⟨4, key, [], 0⟩, ka, kc⟩, ⟨⟨4, key ++ more, [], 0⟩, ma, mc⟩, ⟨⟨0, [], [], 1⟩, none, 0⟩, ⟨⟨4, key, [], 0⟩, ka, kc⟩]
theorem longer_call {w w7 : World} {V : List StepV} {L : List StepD} {key more : List Int} {ka ma a7 : Option Addr} {kc mc c7 : Nat} (hO : Own w w7 28 4 (.slice a7 (V.length + 4) c7) (V.length + 4) ((longV V key more ka kc ma mc).flatMap stC))
    (hV : V.map (·.s) = L) (hb : ∀ x ∈ V, By w7 x.s.bytes x.a x.c) (hk : By w7 key ka kc) (hm : By w7 (key ++ more) ma mc) (hG : Guarded L) (hkl : key.length ≤ 10000) (hml : more.length ≤ 10000) (hT : Tabs w7) :
    Calls Tryz.prog 16 #[.slice a7 (V.length + 4) c7] w7 fun e w' => ∃ g oc i1 i2 i3, e = .returned (.slice (some ⟨g, 0, none⟩) (V.length + 4) oc) ∧ Tch [] w7 w' ∧ ThreeTold w' g V.length i1 i2 i3 := by
  have hLL : (V ++ [⟨⟨4, key, [], 0⟩, ka, kc⟩, ⟨⟨4, key ++ more, [], 0⟩, ma, mc⟩, ⟨⟨0, [], [], 1⟩, none, 0⟩, ⟨⟨4, key, [], 0⟩, ka, kc⟩] : List StepV).map (·.s) = L ++ [⟨4, key, [], 0⟩, ⟨4, key ++ more, [], 0⟩, ⟨0, [], [], 1⟩, ⟨4, key, [], 0⟩] := by simp [hV]
  have hVl : L.length = V.length := by rw [← hV, List.length_map]
  have hn := hG.small.1
  have hst := steps_own (V := V ++ [⟨⟨4, key, [], 0⟩, ka, kc⟩, ⟨⟨4, key ++ more, [], 0⟩, ma, mc⟩, ⟨⟨0, [], [], 1⟩, none, 0⟩, ⟨⟨4, key, [], 0⟩, ka, kc⟩]) (by simpa using hO) (fun x hx => by
    rcases List.mem_append.1 hx with hx | hx
    · exact hb x hx
    · simp only [List.mem_cons, List.not_mem_nil, or_false] at hx
      rcases hx with rfl | rfl | rfl | rfl
      · exact hk
      · exact hm
      · exact ⟨Nat.le_refl _, fun _ => ⟨rfl, rfl⟩, fun ad hd => by simp at hd, by simp⟩
      · exact hk)
  rw [hLL] at hst
  obtain ⟨T, i1, i2, i3, m1, m2, m3, hT1, hs1, hs2, l1, l2, l3, hrun⟩ := longer_run2 L key more
  have hlen : (L ++ [(⟨4, key, [], 0⟩ : StepD), ⟨4, key ++ more, [], 0⟩, ⟨0, [], [], 1⟩, ⟨4, key, [], 0⟩]).length = V.length + 4 := by simp [hVl]
  have hoks := okS_of hG.small hG.ok
  have hcall := runTrie_any _ a7 c7 w7 (by rw [hlen]; omega) hst (getD_all (fun s hs => by
    rcases List.mem_append.1 hs with hs | hs
    · exact (hoks s hs).1
    · simp only [List.mem_cons, List.not_mem_nil, or_false] at hs
      rcases hs with rfl | rfl | rfl | rfl
      · exact okS_get key 0 (by omega) 4 (by decide)
      · exact okS_get (key ++ more) 0 (by simp; omega) 4 (by decide)
      · exact okS_get [] 1 (by simp) 0 (by decide)
      · exact okS_get key 0 (by omega) 4 (by decide))) hT
  rw [hlen] at hcall
  refine hcall.mono ?_
  intro e w2 hE
  obtain ⟨g, oc, outs, rfl, ho, t, hc⟩ := told_of2 hE (by rw [hlen]; omega)
  rw [hlen]
  rw [hrun] at ho
  obtain ⟨P, R, rfl, hP, hR2⟩ := List.map_eq_append_iff.1 ho
  have hPl : P.length = V.length := by rw [← hVl, ← hT1, ← hP, List.length_map]
  rcases R with _ | ⟨p0, _ | ⟨p1, _ | ⟨p2, _ | ⟨p3, _ | ⟨p4, r⟩⟩⟩⟩⟩ <;> simp at hR2
  obtain ⟨o0, o1, o2, o3⟩ := hR2
  obtain ⟨a0, q0, e0, h0⟩ := hc V.length p0 (by rw [List.getElem?_append_right (by omega), hPl]; simp)
  obtain ⟨a1, q1, e1, h1⟩ := hc (V.length + 1) p1 (by rw [List.getElem?_append_right (by omega), hPl]; simp)
  obtain ⟨a3, q3, e3, h3⟩ := hc (V.length + 3) p3 (by rw [List.getElem?_append_right (by omega), hPl]; simp)
  obtain ⟨c0, u0⟩ := h0 w2 [] (Tch.refl _ _) (by simp)
  obtain ⟨c1, u1⟩ := h1 w2 [] (Tch.refl _ _) (by simp)
  obtain ⟨c3, u3⟩ := h3 w2 [] (Tch.refl _ _) (by simp)
  have x0 := c0 1 (by omega)
  have x1 := c1 1 (by omega)
  have x3 := c3 1 (by omega)
  simp only [tolC, e0, e1, e3, o0, o1, o3, List.getElem?_cons_succ, List.getElem?_cons_zero] at x0 x1 x3 u0 u1 u3
  rw [hVl] at l1 l2 l3
  exact ⟨g, oc, i1, i2, i3, rfl, t, hs1, hs2, l1, l2, l3, ⟨a0, q0, x0, u0⟩, ⟨a1, q1, x1, u1⟩, ⟨a3, q3, x3, u3⟩⟩

/-- The steps asked at the end. -/
theorem long_app {w3 w6 : World} {a4 ka ma : Option Addr} {c4 kc mc : Nat} {V : List StepV} (key more : List Int) (R : RowV w3 w6 a4 c4 V) (hl : V.length ≤ 1000) :
    ∃ v' w', (Builtin.append_ #[22, 22] 22 #[.slice a4 V.length c4, .slice (some ⟨w6.heap.size, 0, none⟩) 4 4]).run Tryz.prog (w6.alloc (.cells #[.int .i64 4, .slice ka key.length kc, .string ⟨#[]⟩, .int .u64 0, .int .i64 4, .slice ma (key.length + more.length) mc, .string ⟨#[]⟩, .int .u64 0, .int .i64 0, .slice none 0 0, .string ⟨#[]⟩, .int .u64 1, .int .i64 4, .slice ka key.length kc, .string ⟨#[]⟩, .int .u64 0] 28)) = .ok v' w' ∧ ∃ a' c', v' = .slice a' (V.length + 4) c' ∧ Own w3 w' 28 4 (.slice a' (V.length + 4) c') (V.length + 4) ((longV V key more ka kc ma mc).flatMap stC) ∧ Tch (Value.slice a4 V.length c4).ownBlock.toList w6 w' := by
  obtain ⟨i0, hinf, hz0, hz1, hz2⟩ := info_parts Tryz.infoStep
  have hN := heap_alloc_new w6 (.cells #[.int .i64 4, .slice ka key.length kc, .string ⟨#[]⟩, .int .u64 0, .int .i64 4, .slice ma (key.length + more.length) mc, .string ⟨#[]⟩, .int .u64 0, .int .i64 0, .slice none 0 0, .string ⟨#[]⟩, .int .u64 1, .int .i64 4, .slice ka key.length kc, .string ⟨#[]⟩, .int .u64 0] 28)
  obtain ⟨v', w', hr, ho, ht⟩ := own_apps (ty := 22) Tryz.underlying22 hinf hz0 hz1 hz2 rfl (by decide) (by decide) ⟨w6.heap.size, 0, none⟩ 4 4 (([⟨⟨4, key, [], 0⟩, ka, kc⟩, ⟨⟨4, key ++ more, [], 0⟩, ma, mc⟩, ⟨⟨0, [], [], 1⟩, none, 0⟩, ⟨⟨4, key, [], 0⟩, ka, kc⟩] : List StepV).flatMap stC) (R.own.tch ((Tch.refl [] w6).alloc _)) (by omega) rfl (fun j u hu => by
    rw [addr_add0, cell_of_row _ _ j _ _ _ hN]
    have e : ((([⟨⟨4, key, [], 0⟩, ka, kc⟩, ⟨⟨4, key ++ more, [], 0⟩, ma, mc⟩, ⟨⟨0, [], [], 1⟩, none, 0⟩, ⟨⟨4, key, [], 0⟩, ka, kc⟩] : List StepV).flatMap stC).toArray) = #[.int .i64 4, .slice ka key.length kc, .string ⟨#[]⟩, .int .u64 0, .int .i64 4, .slice ma (key.length + more.length) mc, .string ⟨#[]⟩, .int .u64 0, .int .i64 0, .slice none 0 0, .string ⟨#[]⟩, .int .u64 1, .int .i64 4, .slice ka key.length kc, .string ⟨#[]⟩, .int .u64 0] := by
      simp only [List.flatMap_cons, List.flatMap_nil, stC, List.length_append, List.length_nil]
      rfl
    rw [← e]
    simpa using hu) (by
      intro u hu
      obtain ⟨x, -, hx⟩ := List.mem_flatMap.1 hu
      simp [stC] at hx
      rcases hx with rfl | rfl | rfl | rfl <;> rfl)
  obtain ⟨a', c', e⟩ := ownsRow_slice ho.row
  subst e
  refine ⟨_, w', hr, a', c', rfl, ?_, ((Tch.refl _ w6).alloc _).trans ht⟩
  unfold longV
  rw [List.flatMap_append]
  exact ho

theorem long_end {w3 w4 w6 w7 : World} {V : List StepV} {L : List StepD} {key more : List Int} {ka a4 a6 a7 : Option Addr} {kc c4 c6 c7 : Nat} (hR : RowV w3 w4 a4 c4 V) (hB : Own w4 w6 5 1 (.slice a6 (key.length + more.length) c6) (key.length + more.length) (u8V (key ++ more)))
    (hO : Own w3 w7 28 4 (.slice a7 (V.length + 4) c7) (V.length + 4) ((longV V key more ka kc a6 c6).flatMap stC)) (ht : Tch (Value.slice a4 V.length c4).ownBlock.toList w6 w7) (hV : V.map (·.s) = L) (hk : By w3 key ka kc) (hu : ∀ x ∈ more, 0 ≤ x ∧ x < 256) (hG : Guarded L) (hkl : key.length ≤ 10000) (hml : more.length ≤ 10000) (hT : Tabs w3) :
    Calls Tryz.prog 16 #[.slice a7 (V.length + 4) c7] w7 fun e w' => ∃ g oc i1 i2 i3, e = .returned (.slice (some ⟨g, 0, none⟩) (V.length + 4) oc) ∧ Tch [] w7 w' ∧ ThreeTold w' g V.length i1 i2 i3 := by
  have hrow := ownsRow_tch hB.row ht (fun g hg hm => by
    have h1 := (hB.row.lt g hg).1
    cases a4 with
    | none => simp [Value.ownBlock] at hm
    | some ad => simp [Value.ownBlock] at hm; subst hm; have h2 := (hR.lt ad rfl).2; omega)
  refine longer_call hO hV (fun x hx => (hR.by0 x hx).tch hO.t) (hk.tch hO.t) (by_of_row hrow (by simp) (fun x hx => ?_)) hG hkl hml (hT.tch hO.t)
  rcases List.mem_append.1 hx with hx | hx
  · exact hk.u8 x hx
  · exact hu x hx

end Go.Proofs.YtcolffccbmpndaaGreatDoor
