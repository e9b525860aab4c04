/- processOne where an index begins. -/
import Derived.Test.YtaheafmdkbobcaaInr
namespace Go.Proofs.Ytaheafmdkbobcaa
open Go.RowKit
set_option linter.unusedVariables false

theorem zero3 (w : World) : (zeroValue 3).run Try.prog w = .ok (.int .i64 0) w := by kernel_rfl

/-- The count of an index, if it is there. -/
def cnt? (pl : List (Int × Int)) (x : Int) : Option Int := (pl.find? (fun p => p.1 == x)).map Prod.snd
/-- A count is written. -/
def putC (pl : List (Int × Int)) (x c : Int) : List (Int × Int) := if (cnt? pl x).isSome then pl.map (fun p => if p.1 = x then (x, c) else p) else pl ++ [(x, c)]

theorem at?_cnt (pl : List (Int × Int)) (x : Int) : at? (pl.map fun p => (p.1, Value.int .i64 p.2)) x = (cnt? pl x).map (Value.int .i64) := by
  rw [at?_map]
  simp [cnt?]
  rfl
theorem putL_putC (pl : List (Int × Int)) (x c : Int) : putL (pl.map fun p => (p.1, Value.int .i64 p.2)) x (.int .i64 c) = (putC pl x c).map fun p => (p.1, Value.int .i64 p.2) := by
  unfold putL putC
  rw [at?_cnt]
  cases cnt? pl x with
  | none => simp
  | some a =>
    simp only [Option.map_some, Option.isSome_some, if_true, List.map_map]
    apply List.map_congr_left
    intro p _
    simp only [Function.comp]
    split <;> simp_all

/-- The least index has something left. -/
def LeastPos (pl : List (Int × Int)) : Prop := ∀ p ∈ pl, (∀ q ∈ pl, p.1 ≤ q.1) → 0 < p.2

theorem head_least {hs : List Int} {pl : List (Int × Int)} (hp : hs.Perm (pl.map Prod.fst)) (hh : IsHp hs) (h0 : 0 < hs.length) : ∃ c, (hs.getD 0 0, c) ∈ pl ∧ ∀ q ∈ pl, hs.getD 0 0 ≤ q.1 := by
  have hmem : hs.getD 0 0 ∈ hs := by rw [List.getD_eq_getElem?_getD, List.getElem?_eq_getElem h0]; exact List.getElem_mem h0
  have := hp.mem_iff.1 hmem
  obtain ⟨p, hpm, he⟩ := List.mem_map.1 this
  refine ⟨p.2, by rw [← he]; exact hpm, fun q hq => ?_⟩
  have hq' : q.1 ∈ hs := hp.mem_iff.2 (List.mem_map.2 ⟨q, hq, rfl⟩)
  obtain ⟨k, hk, hke⟩ := List.getElem_of_mem hq'
  have := hh.root k hk
  rw [show hs.getD k 0 = q.1 by rw [List.getD_eq_getElem?_getD, List.getElem?_eq_getElem hk]; exact hke] at this
  exact this

theorem cnt_mem {pl : List (Int × Int)} (hn : (pl.map Prod.fst).Nodup) {x c : Int} : cnt? pl x = some c ↔ (x, c) ∈ pl := by
  induction pl with
  | nil => simp [cnt?]
  | cons p l ih =>
    simp only [List.map_cons, List.nodup_cons] at hn
    have ih := ih hn.2
    unfold cnt? at ih ⊢
    by_cases h : p.1 = x
    · rw [List.find?_cons_of_pos (by simpa using h)]
      have : ∀ c', (x, c') ∉ l := fun c' hc => hn.1 (by rw [h]; exact List.mem_map.2 ⟨_, hc, rfl⟩)
      simp only [Option.map_some, Option.some.injEq, List.mem_cons]
      constructor
      · intro e; left; rw [← h, ← e]
      · rintro (e | e)
        · rw [← e]
        · exact absurd e (this c)
    · rw [List.find?_cons_of_neg (by simpa using h), ih]
      simp only [List.mem_cons]
      constructor
      · intro e; exact .inr e
      · rintro (e | e)
        · rw [← e] at h; exact absurd rfl h
        · exact e

theorem cntD {pl : List (Int × Int)} {x : Int} : at? (pl.map fun p => (p.1, Value.int .i64 p.2)) x = (cnt? pl x).map (Value.int .i64) := at?_cnt pl x

/-- Where the least index has something left: what the loop over the heap sees. -/
theorem loop_head {w : World} {L : Lay} {x3 v : Value} {til last : Int} {hs : List Int} {pl : List (Int × Int)} {ws : List (Nat × Int)} {f : Int → Bool} {es : List (Int × Value)} (h : Inr w L x3 v til last hs pl ws f es) (hp : hs.Perm (pl.map Prod.fst)) (hh : IsHp hs) (h0 : 0 < hs.length) :
    ∃ g cap c, v = .slice (some ⟨g, 0, none⟩) hs.length cap ∧ hs.length ≤ cap ∧ w.cell? ⟨g, 0, none⟩ = some (.int .u64 (hs.getD 0 0)) ∧ (hs.getD 0 0, c) ∈ pl ∧ (∀ q ∈ pl, hs.getD 0 0 ≤ q.1) ∧ cnt? pl (hs.getD 0 0) = some c ∧
      (Instr.lookup 59 (.map (some L.pb)) (.int .u64 (hs.getD 0 0)) false).run Try.prog w = .ok (.int .i64 c) w := by
  obtain ⟨g, cap, hv, hc, _⟩ := ownsRow_value h.hp.own h0
  obtain ⟨c, hm, hl⟩ := head_least hp hh h0
  have hnd : (pl.map Prod.fst).Nodup := by
    have := h.core.pend.nodup
    simpa [List.map_map, Function.comp_def] using this
  have hcnt := (cnt_mem hnd).2 hm
  refine ⟨g, cap, c, hv, hc, ?_, hm, hl, hcnt, ?_⟩
  · have := h.hp.own
    rw [hv] at this
    exact cellOf this h0
  · have := h.core.pend.lookup (P := Try.prog) (t := 59) Try.underlying28 Try.underlying59 (zero3 w) (hs.getD 0 0)
    rw [at?_cnt, hcnt] at this
    exact this

set_option maxHeartbeats 2000000 in
theorem one_begin (x : Int) (L : Lay) (x3 v : Value) (til last : Int) (hs : List Int) (pl : List (Int × Int)) (ws : List (Nat × Int)) (f : Int → Bool) (es : List (Int × Value)) (w : World)
    (h : Inr w L x3 v til last hs pl ws f es) (hp : hs.Perm (pl.map Prod.fst)) (hh : IsHp hs) (hpres : cnt? pl x = none) (hlp : LeastPos (putC pl x 1)) (ht0 : 0 ≤ til) (hx : til < x) (hx2 : x < 18446744073709551615)
    (hmx : hs.length ≤ 1000000) (hes : es.length ≤ 1000000) :
    Calls Try.prog 36 #[.int .u64 x, .bool false, ptr L.pbx, ptr L.ib, ptr L.wbx, ptr L.qbx] w fun e w' => e = .returned (.tuple #[]) ∧
      ∃ v' hs', Inr w' L x3 v' til last hs' (putC pl x 1) ws f es ∧ hs'.Perm ((putC pl x 1).map Prod.fst) ∧ IsHp hs' ∧ Tch (L.pb :: L.ib :: v.ownBlock.toList) w w' ∧ (v'.ownBlock = v.ownBlock ∨ ∃ k, v'.ownBlock = some k ∧ w.heap.size ≤ k) := by
  have c1 := cell_of_one h.core.b1
  have hlk := h.core.pend.lookup_ok (P := Try.prog) (t := 59) Try.underlying28 Try.underlying59 (zero3 w) x
  rw [at?_cnt, hpres] at hlk
  simp only [Option.map_none, Option.getD_none, Option.isSome_none] at hlk
  have hkeys : (putC pl x 1).map Prod.fst = pl.map Prod.fst ++ [x] := by unfold putC; rw [hpres]; simp
  obtain ⟨pw1, pw2⟩ := push_law (x := x) hh
  have hperm : (hup (hs ++ [x]) hs.length).Perm ((putC pl x 1).map Prod.fst) := by rw [hkeys]; exact pw2.trans (hp.append_right [x])
  have hlen : (hup (hs ++ [x]) hs.length).length = hs.length + 1 := by rw [hup_length]; simp
  have K : ∀ w1 v' w2, HeapAt w1 L.ib v' (hup (hs ++ [x]) hs.length) → Tch (L.ib :: v.ownBlock.toList) w w1 → (v'.ownBlock = v.ownBlock ∨ ∃ k, v'.ownBlock = some k ∧ w.heap.size ≤ k) →
      RMap .u64 w2 L.pb (putL (pl.map fun p => (p.1, .int .i64 p.2)) x (.int .i64 1)) → Tch [L.pb] w1 w2 →
      Inr w2 L x3 v' til last (hup (hs ++ [x]) hs.length) (putC pl x 1) ws f es ∧ Tch (L.pb :: L.ib :: v.ownBlock.toList) w w2 := by
    intro w1 v' w2 hh1 ht1 hv' hm2 ht2
    rw [putL_putC] at hm2
    exact ⟨(h.heapTch ht1 hh1).pendTch ht2 hm2, (ht1.mono (by intro k _ hk; exact List.mem_cons_of_mem _ hk)).head ht2 (by simp)⟩
  have HK := Lib.hid K
  have HP := Lib.hid hperm
  have HLP := Lib.hid hlp
  have HL := Lib.hid hlen
  have hd0 : decide (x < til) = false := by simp; omega
  have hd1 : (til != til) = false := by simp
  have hd2 : decide (til + 1 ≤ til) = false := by simp; omega
  clear hp hlp hh hpres K hperm hkeys pw2 hlen
  go_enter Try.func36, Try.ntmps36
  go_wp2_with (first | (go_at_call 37; refine (push_any L.ib v x hs _ h.hp (by omega)).mono ?_; rintro e w1 ⟨rfl, v', hh1, ht1, hv'⟩; have h1 := h.heapTch ht1 hh1; have c2 := cell_of_one h1.core.b1; clear hlk) | (at_mapUpdate; refine wpList_mapUpdate_run rfl _ _ _ 59 rfl _ _ _ rfl rfl rfl _ (h1.core.pend.update Try.underlying28 Try.underlying59 x (.int .i64 1)) ?_; rintro w2 ⟨hm2, ht2⟩; obtain ⟨h2, ht⟩ := HK.out w1 v' w2 hh1 ht1 hv' hm2 ht2; clear hm2 ht2 hh1 ht1 h1 c2 c1; obtain ⟨f1, f2, f3, f4, f5, -⟩ := h2.facts; obtain ⟨g, cap, c, rfl, hcap, k1, k2, k3, k4, k5⟩ := loop_head h2 HP.out pw1 (by rw [HL.out]; omega); have k6 := HLP.out _ k2 k3; have hln := h2.wt.map.len (P := Try.prog) Try.underlying60 3; rw [HL.out] at f4; have HV := Lib.hid hv'; clear k2 k3 k4 hcap hv'; generalize hmn : (hup (hs ++ [x]) hs.length).getD 0 0 = mn at *; clear hmn) | go_in)
  refine wp_loop_once ?_
  go_wp2_with go_in
  refine wp_loop_once ?_
  go_wp2_with go_in
  go_end0
  exact ⟨rfl, _, _, h2, HP.out, pw1, ht, HV.out⟩

theorem putC_keys {pl : List (Int × Int)} {x c c' : Int} (h : cnt? pl x = some c) : (putC pl x c').map Prod.fst = pl.map Prod.fst := by
  unfold putC
  rw [h]
  simp only [Option.isSome_some, if_true, List.map_map]
  apply List.map_congr_left
  intro p _
  simp only [Function.comp]
  split <;> simp_all

set_option maxHeartbeats 2000000 in
theorem one_again (x c0 : Int) (L : Lay) (x3 v : Value) (til last : Int) (hs : List Int) (pl : List (Int × Int)) (ws : List (Nat × Int)) (f : Int → Bool) (es : List (Int × Value)) (w : World)
    (h : Inr w L x3 v til last hs pl ws f es) (hp : hs.Perm (pl.map Prod.fst)) (hh : IsHp hs) (hpres : cnt? pl x = some c0) (hc0 : 0 ≤ c0) (hc1 : c0 ≤ 1000000) (hlp : LeastPos (putC pl x (c0 + 1))) (ht0 : 0 ≤ til) (hx : til < x) (hx2 : x < 18446744073709551615)
    (hmx : hs.length ≤ 1000000) (hes : es.length ≤ 1000000) :
    Calls Try.prog 36 #[.int .u64 x, .bool false, ptr L.pbx, ptr L.ib, ptr L.wbx, ptr L.qbx] w fun e w' => e = .returned (.tuple #[]) ∧
      Inr w' L x3 v til last hs (putC pl x (c0 + 1)) ws f es ∧ hs.Perm ((putC pl x (c0 + 1)).map Prod.fst) ∧ Tch [L.pb] w w' := by
  have c1 := cell_of_one h.core.b1
  have hlk := h.core.pend.lookup_ok (P := Try.prog) (t := 59) Try.underlying28 Try.underlying59 (zero3 w) x
  rw [at?_cnt, hpres] at hlk
  simp only [Option.map_some, Option.getD_some, Option.isSome_some] at hlk
  have hkeys := putC_keys (c' := c0 + 1) hpres
  have hperm : hs.Perm ((putC pl x (c0 + 1)).map Prod.fst) := by rw [hkeys]; exact hp
  have h0 : 0 < hs.length := by
    rw [hp.length_eq]
    rw [List.length_map]
    cases pl with
    | nil => simp [cnt?] at hpres
    | cons a l => simp
  have K : ∀ w2, RMap .u64 w2 L.pb (putL (pl.map fun p => (p.1, .int .i64 p.2)) x (.int .i64 (c0 + 1))) → Tch [L.pb] w w2 → Inr w2 L x3 v til last hs (putC pl x (c0 + 1)) ws f es := by
    intro w2 hm2 ht2
    rw [putL_putC] at hm2
    exact h.pendTch ht2 hm2
  have HK := Lib.hid K
  have HP := Lib.hid hperm
  have HH := Lib.hid hh
  have HLP := Lib.hid hlp
  have hd0 : decide (x < til) = false := by simp; omega
  have hd1 : (til != til) = false := by simp
  have hd2 : decide (til + 1 ≤ til) = false := by simp; omega
  clear hp hlp hpres K hperm hkeys hh
  go_enter Try.func36, Try.ntmps36
  go_wp2_with (first | (at_mapUpdate; refine wpList_mapUpdate_run rfl _ _ _ 59 rfl _ _ _ rfl rfl rfl _ (h.core.pend.update Try.underlying28 Try.underlying59 x (.int .i64 (c0 + 1))) ?_; rintro w2 ⟨hm2, ht2⟩; have h2 := HK.out w2 hm2 ht2; clear hm2 c1; obtain ⟨f1, f2, f3, f4, f5, -⟩ := h2.facts; obtain ⟨g, cap, c, rfl, hcap, k1, k2, k3, k4, k5⟩ := loop_head h2 HP.out HH.out h0; have k6 := HLP.out _ k2 k3; have hln := h2.wt.map.len (P := Try.prog) Try.underlying60 3; clear k2 k3 k4 hcap hlk; generalize hmn : hs.getD 0 0 = mn at *; clear hmn) | go_in)
  refine wp_loop_once ?_
  go_wp2_with go_in
  refine wp_loop_once ?_
  go_wp2_with go_in
  go_end0
  exact ⟨rfl, h2, HP.out, ht2⟩

end Go.Proofs.Ytaheafmdkbobcaa
