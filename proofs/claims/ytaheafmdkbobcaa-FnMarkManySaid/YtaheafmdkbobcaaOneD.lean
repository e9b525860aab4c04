/- processOne where an index is done: to the end of the loop over the heap. -/
import Derived.Test.YtaheafmdkbobcaaInrD
import Derived.Deep.LoopGhost
namespace Go.Proofs.Ytaheafmdkbobcaa
open Go.RowKit

theorem wrapsub (u t : Int) (h0 : 0 ≤ t) (h : t ≤ u) (h2 : u ≤ 18446744073709551615) : IntKind.u64.wrap (u - t) = u - t := IntWalk.u64_in _ (by omega)

theorem doneUntil_any (wb : Nat) (u : Int) (w : World) (h : w.cell? ⟨wb, 0, none⟩ = some (.int .u64 u)) : Calls Try.prog 27 #[ptr wb] w fun e w' => e = .returned (.int .u64 u) ∧ w = w' := by
  go_enter Try.func27, Try.ntmps27
  go_wp2
  go_ret
  exact ⟨rfl, rfl⟩

theorem zero48 (w : World) : (zeroValue 48).run Try.prog w = .ok (.slice none 0 0) w := by kernel_rfl

/-- What is left of process's closure behind the loop over the heap is what this says. -/
def DonePost (L : Lay) (x3 v : Value) (last : Int) (ws : List (Nat × Int)) (es : List (Int × Value)) (w : World) (r : List (Int × Int) × Int) (w' : World) : Prop :=
  ∃ v' hs', Inr w' L x3 v' r.2 last hs' r.1 ws (fun i => decide (i ≤ r.2)) (es.filter (fun p => decide (r.2 < p.1))) ∧ hs'.Perm (r.1.map Prod.fst) ∧ IsHp hs' ∧ v'.ownBlock = v.ownBlock ∧
    Tch (L.wb :: L.pb :: L.qb :: L.ib :: (v.ownBlock.toList ++ ws.map Prod.fst)) w w'

set_option maxHeartbeats 4000000 in
theorem one_done (x c0 : Int) (L : Lay) (x3 v : Value) (til last : Int) (hs : List Int) (pl : List (Int × Int)) (ws : List (Nat × Int)) (es : List (Int × Value)) (w : World)
    (h : Inr w L x3 v til last hs pl ws (fun i => decide (i ≤ til)) es) (hp : hs.Perm (pl.map Prod.fst)) (hh : IsHp hs) (hpres : cnt? pl x = some c0) (hc0 : 1 ≤ c0) (hc1 : c0 ≤ 1000000) (ht0 : 0 ≤ til) (hx : til < x) (hx2 : x < 18446744073709551615) (hall : ∀ p ∈ pl, til < p.1 ∧ p.1 < 18446744073709551615)
    (hmx : hs.length ≤ 1000000) (hes : es.length ≤ 1000000) (hws : ws.length ≤ 1000000) (hnd : (ws.map Prod.fst).Nodup) :
    Calls Try.prog 36 #[.int .u64 x, .bool true, ptr L.pbx, ptr L.ib, ptr L.wbx, ptr L.qbx] w fun e w' => e = .returned (.tuple #[]) ∧
      DonePost L x3 v last ws es w (drainP pl.length (putC pl x (c0 - 1)) til) w' := by
  have c1 := cell_of_one h.core.b1
  have hlk := h.core.pend.lookup_ok (P := Try.prog) (t := 59) Try.underlying28 Try.underlying59 (zero3 w) x
  rw [at?_cnt, hpres] at hlk
  simp only [Option.map_some, Option.getD_some, Option.isSome_some] at hlk
  have hkeys := putC_keys (c' := c0 - 1) hpres
  have hperm : hs.Perm ((putC pl x (c0 - 1)).map Prod.fst) := by rw [hkeys]; exact hp
  have hplen : hs.length = pl.length := by rw [hp.length_eq, List.length_map]
  have h0 : 0 < hs.length := by
    rw [hplen]
    cases pl with
    | nil => simp [cnt?] at hpres
    | cons a l => simp
  have hall' : ∀ p ∈ putC pl x (c0 - 1), til < p.1 ∧ p.1 < 18446744073709551615 := by
    intro p hpm
    have : p.1 ∈ (putC pl x (c0 - 1)).map Prod.fst := List.mem_map.2 ⟨p, hpm, rfl⟩
    rw [hkeys] at this
    obtain ⟨q, hq, e⟩ := List.mem_map.1 this
    rw [← e]; exact hall q hq
  have K : ∀ w2, RMap .u64 w2 L.pb (putL (pl.map fun p => (p.1, .int .i64 p.2)) x (.int .i64 (c0 - 1))) → Tch [L.pb] w w2 → Inr w2 L x3 v til last hs (putC pl x (c0 - 1)) ws (fun i => decide (i ≤ til)) es := by
    intro w2 hm2 ht2
    rw [putL_putC] at hm2
    exact h.pendTch ht2 hm2
  obtain ⟨g, cap, rfl, hcap, -⟩ := ownsRow_value h.hp.own h0
  have HK := Lib.hid K
  have HP := Lib.hid hperm
  have HH := Lib.hid hh
  have HA := Lib.hid hall'
  have HN := Lib.hid hplen
  generalize hpl1 : putC pl x (c0 - 1) = pl1 at *
  have hd0 : decide (x < til) = false := by simp; omega
  have hcm : (c0 + -1) = c0 - 1 := by omega
  clear hp hpres K hperm hkeys hh hall hall' hplen hpl1
  go_enter Try.func36, Try.ntmps36
  go_wp2_with (first | (at_mapUpdate; refine wpList_mapUpdate_run rfl _ _ _ 59 rfl _ _ _ rfl rfl rfl _ (h.core.pend.update Try.underlying28 Try.underlying59 x (.int .i64 (c0 - 1))) ?_; rintro w2 ⟨hm2, ht2⟩; have h2 := HK.out w2 hm2 ht2; clear hm2 c1 hlk; obtain ⟨f1, f2, f3, f4, f5, -⟩ := h2.facts) | (go_at_call 27; refine (doneUntil_any _ _ _ f5).mono ?_; rintro e w' ⟨rfl, rfl⟩) | go_in)
  have T2 : Tch (L.pb :: L.ib :: [g]) w w2 := ht2.mono (by intro k _ hk; simp at hk; simp [hk])
  go_loopg [12, 13] hs.length (fun n s12 s13 wr => ∃ (u lp : Int) (hs' : List Int) (pl' : List (Int × Int)), n = hs'.length ∧ s12 = .int .u64 u ∧ s13 = .int .i64 lp ∧ Inr wr L x3 (.slice (some ⟨g, 0, none⟩) hs'.length cap) til last hs' pl' ws (fun i => decide (i ≤ til)) es ∧
    Hid (hs'.Perm (pl'.map Prod.fst) ∧ IsHp hs' ∧ drainP pl'.length pl' u = drainP pl.length pl1 til ∧ (∀ p ∈ pl', u < p.1 ∧ p.1 < 18446744073709551615)) ∧ til ≤ u ∧ u < 18446744073709551615 ∧ hs'.length ≤ cap ∧ hs'.length ≤ 1000000 ∧ Tch (L.pb :: L.ib :: [g]) w wr)
  case atStart =>
    exact ⟨til, 0, hs, pl1, rfl, rfl, rfl, h2, ⟨HP.out, HH.out, by rw [← HN.out, HP.out.length_eq, List.length_map], HA.out⟩, Int.le_refl _, by omega, hcap, hmx, T2⟩
  case round =>
    clear f1 f2 f3 f4 f5
    obtain ⟨wo, rfl⟩ : ∃ wo : World, wo = wr := ⟨_, rfl⟩
    obtain ⟨u, lp, hs', pl', rfl, rfl, rfl, hi, HD, htu, hu2, hcp, hm', hT⟩ := hrel
    obtain ⟨f1, f2, f3, f4, f5, -⟩ := hi.facts
    obtain ⟨g1, g2, g3, g4⟩ := HD.out
    have hnd' : (pl'.map Prod.fst).Nodup := by
      have := hi.core.pend.nodup
      simpa [List.map_map, Function.comp_def] using this
    have hcase : (decide (0 < hs'.length) = false ∧ drainP pl.length pl1 til = (pl', u)) ∨ (0 < hs'.length ∧ ∃ mn c, wo.cell? ⟨g, 0, none⟩ = some (.int .u64 mn) ∧ (Instr.lookup 59 (.map (some L.pb)) (.int .u64 mn) false).run Try.prog wo = .ok (.int .i64 c) wo ∧
        ((0 < c ∧ drainP pl.length pl1 til = (pl', u)) ∨ (c ≤ 0 ∧ mn = hs'.getD 0 0 ∧ (mn, c) ∈ pl' ∧ (∀ q ∈ pl', mn ≤ q.1)))) := by
      by_cases hz : hs'.length = 0
      · left
        refine ⟨by simp [hz], ?_⟩
        have : pl' = [] := by
          have := g1.length_eq
          rw [hz, List.length_map] at this
          exact List.eq_nil_of_length_eq_zero this.symm
        rw [← g3, this]
        exact drain_nil _ _
      · right
        refine ⟨by omega, ?_⟩
        obtain ⟨g', cap', c, hv, _, k1, k2, k3, k4, k5⟩ := loop_head hi g1 g2 (by omega)
        simp only [Value.slice.injEq, Option.some.injEq, Addr.mk.injEq, and_true, true_and] at hv
        obtain ⟨rfl, rfl⟩ := hv
        refine ⟨_, c, k1, k5, ?_⟩
        by_cases hc : 0 < c
        · left
          exact ⟨hc, by rw [← g3]; exact drain_stop hnd' k2 k3 hc _ _⟩
        · right
          exact ⟨by omega, rfl, k2, k3⟩
    clear g1 g2 g3 g4
    have hqw : L.qbx ≠ L.wb := cells_ne hi.core.b3 hi.core.str (by decide)
    rcases hcase with ⟨hl0, hR⟩ | ⟨hl0, mn, c, k1, k5, ⟨hc, hR⟩ | ⟨hc, hmn, k2, k3⟩⟩
    rotate_right
    · have hc' : decide (0 < c) = false := by simp; omega
      obtain ⟨n, hn⟩ : ∃ n, hs'.length = n + 1 := ⟨hs'.length - 1, by omega⟩
      have hpop := pop_any L.ib g n cap hs' wo (by rw [← hn]; exact hi.hp) hn (by omega) (by omega)
      have HPOP := Lib.hid hpop
      have HC := Lib.hid (show mn = hs'.getD 0 0 ∧ (mn, c) ∈ pl' ∧ (∀ q ∈ pl', mn ≤ q.1) from ⟨hmn, k2, k3⟩)
      have HNn := Lib.hid hn
      have HND := Lib.hid hnd'
      have hl0' : (0 : Int) < hs'.length := by omega
      clear hpop hmn k2 k3 hn hnd'
      go_wp2_with (first | (go_at_call 39; refine HPOP.out.mono ?_; rintro e w3 ⟨⟨xx, rfl⟩, hh3, ht3⟩; have e3 : ((hdn (swp hs' 0 n) n 0).take n).length = n := (by rw [List.length_take, hdn_length, swp_length, HNn.out]; omega); have hi3 := hi.heapTch (ht3.mono (by intro k _ hk; simp at hk; simp [Value.ownBlock, hk])) hh3; have b3 := hi3.facts.1) | (at_delete; refine wpList_delete_run rfl _ _ 59 28 rfl _ _ rfl rfl _ (hi3.core.pend.delete Try.underlying28 Try.underlying59 mn _) ?_; rintro w4 ⟨hm4, ht4⟩) | go_in)
      rw [delL_map] at hm4
      have hi4 := hi3.pendTch ht4 hm4
      obtain ⟨m1, m2, m3⟩ := HC.out
      obtain ⟨g1, g2, g3, g4⟩ := HD.out
      obtain ⟨q1, q2⟩ := pop_law HNn.out g2
      rw [← m1] at q2
      have hperm4 := filter_keys_perm HND.out (q2.trans g1)
      have hpl' : pl'.length = n + 1 := by have := g1.length_eq; rw [HNn.out, List.length_map] at this; exact this.symm
      have hpl4 : (pl'.filter (fun q => q.1 != mn)).length = n := by have := hperm4.length_eq; rw [e3, List.length_map] at this; exact this.symm
      have hd4 : drainP (pl'.filter (fun q => q.1 != mn)).length (pl'.filter (fun q => q.1 != mn)) mn = drainP pl.length pl1 til := by
        rw [hpl4, ← g3, hpl', drain_go HND.out m2 m3 (by show ¬ 0 < c; omega)]
      have hmb := g4 _ m2
      simp only at hmb
      go_roundg n
      case rel =>
        have hnn := HNn.out
        refine ⟨mn, _, (hdn (swp hs' 0 n) n 0).take n, pl'.filter (fun q => q.1 != mn), e3.symm, rfl, rfl, by rw [e3]; exact hi4, ⟨hperm4, q1, hd4, ?_⟩, by omega, hmb.2, by rw [e3]; omega, by rw [e3]; omega, (hT.then ht3 (by intro k _ hk; exact List.mem_cons_of_mem _ hk)).head ht4 (by simp)⟩
        intro p hp
        obtain ⟨hp1, hp2⟩ := List.mem_filter.1 hp
        have := m3 p hp1
        have hne : p.1 ≠ mn := by simpa using hp2
        exact ⟨by omega, (g4 p hp1).2⟩
      case measure => rw [HNn.out]; omega
    all_goals
      have HR := Lib.hid hR
      have HND := Lib.hid hnd'
      clear hR hnd'
      by_cases hut : u = til
      · have hd1 : (til != til) = false := by simp
        have hd2 : decide (til + 1 ≤ til) = false := by simp; omega
        have hln := hi.wt.map.len (P := Try.prog) Try.underlying60 3
        go_wp2_with go_in
        refine wp_loop_once ?_
        go_wp2_with go_in
        go_end0
        have hfin : DonePost L x3 (.slice (some ⟨g, 0, none⟩) hs.length cap) last ws es w (pl', u) wo := by
          rw [hut]
          refine ⟨.slice (some ⟨g, 0, none⟩) hs'.length cap, hs', ?_, HD.out.1, HD.out.2.1, rfl, hT.mono ?_⟩
          · refine hi.congr (f' := fun i => decide (i ≤ til)) (fun _ _ => rfl) ?_
            symm
            rw [List.filter_eq_self]
            intro p hp
            have := (hi.wt.keyOf hp).1
            simp at this ⊢; exact this
          · intro k _ hk
            simp [Value.ownBlock] at hk ⊢
            rcases hk with rfl | rfl | rfl <;> simp
        rw [← HR.out] at hfin
        exact ⟨rfl, hfin⟩
      · have hlt : til < u := by omega
        obtain ⟨h3, t3⟩ := hi.tilSet u
        have hln := h3.wt.map.len (P := Try.prog) Try.underlying60 3
        obtain ⟨e1, e2, e3, e4, e5, -⟩ := h3.facts
        have hd1 : (u != til) = true := by simp; exact hut
        have hfz := hi.core.cells.2.2.2.2.2 0
        have hsub := wrapsub u til ht0 htu (by omega)
        have hFIN : ∀ w', Inr w' L x3 (.slice (some ⟨g, 0, none⟩) hs'.length cap) u last hs' pl' ws (fun i => decide (i ≤ u)) (es.filter (fun p => decide (u < p.1))) → Tch (L.qb :: ws.map Prod.fst) (wo.setCell ⟨L.wb, 0, none⟩ (.int .u64 u)) w' →
            DonePost L x3 (.slice (some ⟨g, 0, none⟩) hs.length cap) last ws es w (drainP pl.length pl1 til) w' := by
          intro w' hi' ht'
          rw [HR.out]
          refine ⟨.slice (some ⟨g, 0, none⟩) hs'.length cap, hs', hi', HD.out.1, HD.out.2.1, rfl, ?_⟩
          refine ((hT.mono ?_).then t3 ?_).then ht' ?_
          · intro k _ hk
            simp [Value.ownBlock] at hk ⊢
            rcases hk with rfl | rfl | rfl <;> simp
          · intro k _ hk
            simp [Value.ownBlock] at hk ⊢
            simp [hk]
          · intro k _ hk
            simp only [List.mem_cons] at hk
            simp only [Value.ownBlock, Option.toList_some, List.mem_cons, List.mem_append]
            rcases hk with rfl | hk
            · simp
            · simp [hk]
        have HFIN := Lib.hid hFIN
        clear hFIN
        by_cases hD : u - til ≤ es.length
        · have hd3 : decide (u - til ≤ es.length) = true := by simpa using hD
          go_wp2_with go_in
          go_loopg [17] (u - til).toNat (fun n s17 wr => ∃ j : Int, s17 = .int .u64 j ∧ til < j ∧ j ≤ u + 1 ∧ n = (u + 1 - j).toNat ∧ Inr wr L x3 (.slice (some ⟨g, 0, none⟩) hs'.length cap) u last hs' pl' ws (fB j) (esB j es) ∧ Tch (L.qb :: ws.map Prod.fst) (wo.setCell ⟨L.wb, 0, none⟩ (.int .u64 u)) wr)
          case atStart => exact ⟨til + 1, rfl, by omega, by omega, by omega, h3.startB, Tch.refl _ _⟩
          case round =>
            obtain ⟨j, rfl, hj1, hj2, rfl, hi2, hT2⟩ := hrel
            clear e1 e2 e3 e4 e5 hln f1 f2 f3 f4 f5 hfz
            obtain ⟨q1, q2, q3, q4, q5, -⟩ := hi2.facts
            have hlk2 := hi2.wt.map.lookup_ok (P := Try.prog) (t := 60) Try.underlying28 Try.underlying60 (zero48 wr) j
            by_cases hju : j ≤ u
            · cases hat : at? (esB j es) j with
              | none =>
                rw [hat] at hlk2
                simp only [Option.getD_none, Option.isSome_none] at hlk2
                have hno := hi2.noneB hat
                clear hat
                go_wp2_with go_in
                go_roundg (u - j).toNat
                case rel => exact ⟨j + 1, rfl, by omega, by omega, by omega, hno, hT2⟩
                case measure => omega
              | some vv =>
                rw [hat] at hlk2
                simp only [Option.getD_some, Option.isSome_some] at hlk2
                obtain ⟨g2, cap2, n2, rfl, hcall⟩ := notifyB hi2 hat hnd hws
                have HCL := Lib.hid hcall
                clear hat hcall
                go_wp2_with (first | (go_at_call 40; refine HCL.out.mono ?_; rintro e w5 ⟨rfl, hi5, ht5⟩) | go_in)
                go_roundg (u - j).toNat
                case rel => exact ⟨j + 1, rfl, by omega, by omega, by omega, hi5, hT2.trans ht5⟩
                case measure => omega
            · have hje : j = u + 1 := by omega
              have hfin := HFIN.out wr (by rw [hje] at hi2; exact hi2.endB) hT2
              have hd5 : decide (j ≤ u) = false := by simp; omega
              clear hje
              go_wp2_with go_in
              go_end0
              exact ⟨rfl, hfin⟩
        · have hd3 : decide (u - til ≤ es.length) = false := by simpa using hD
          have hrg : ∃ vv w', (Instr.range 60 (.map (some L.qb))).run Try.prog (wo.setCell ⟨L.wb, 0, none⟩ (.int .u64 u)) = .ok vv w' ∧ (vv = .pointer (some ⟨wo.heap.size, 0, none⟩) ∧ RIter .u64 w' wo.heap.size L.qb es (es.map Prod.fst) ∧ Tch [] (wo.setCell ⟨L.wb, 0, none⟩ (.int .u64 u)) w') := by
            obtain ⟨w', a1, a2, a3, _⟩ := h3.wt.map.range (P := Try.prog) (t := 60) Try.underlying60
            have hsz : (wo.setCell ⟨L.wb, 0, none⟩ (.int .u64 u)).heap.size = wo.heap.size := by simp [World.setCell]
            rw [hsz] at a1 a2
            exact ⟨_, w', a1, rfl, a2, a3⟩
          have HRG := Lib.hid hrg
          clear hrg
          go_wp2_with (first | (at_range; refine wpList_range_run rfl _ 60 rfl _ rfl _ HRG.out ?_; rintro vv w5 ⟨rfl, hit5, ht5⟩; have hi5 := h3.nil ht5; go_frame) | go_in)
          have hT0 : Tch (L.qb :: wo.heap.size :: ws.map Prod.fst) (wo.setCell ⟨L.wb, 0, none⟩ (.int .u64 u)) w5 := ht5.mono (by simp)
          go_loopg [20] es.length (fun n _ wr => ∃ left : List Int, n = left.length ∧ RIter .u64 wr wo.heap.size L.qb (esR u left es) left ∧ Inr wr L x3 (.slice (some ⟨g, 0, none⟩) hs'.length cap) u last hs' pl' ws (fR til u left) (esR u left es) ∧ Tch (L.qb :: ws.map Prod.fst) (wo.setCell ⟨L.wb, 0, none⟩ (.int .u64 u)) wr)
          case atStart =>
            refine ⟨es.map Prod.fst, by simp, ?_, hi5.startR htu, ht5.mono (by simp)⟩
            have he : esR u (es.map Prod.fst) es = es := by
              unfold esR
              rw [List.filter_eq_self]
              intro p hp
              have : p.1 ∈ es.map Prod.fst := List.mem_map.2 ⟨p, hp, rfl⟩
              rw [List.contains_eq_mem]
              simp only [this, decide_true, Bool.true_or]
            rw [he]; exact hit5
          case round =>
            obtain ⟨left, rfl, hit, hi2, hT2⟩ := hrel
            clear e1 e2 e3 e4 e5 hln f1 f2 f3 f4 f5 hfz
            have hrb := hit.ne_map hi2.wt.map
            rcases hit.next (P := Try.prog) hrb 0 with ⟨hl, hrun⟩ | ⟨k, vv, w6, hk, hat, hrun, hit6, ht6, hsz6, hent⟩
            · have hfin := HFIN.out wr (by rw [hl] at hi2; exact hi2.endR htu) hT2
              clear hl
              go_wp2_with go_in
              go_end0
              exact ⟨rfl, hfin⟩
            · have hi6 := hi2.iter hit ht6
              have hT6 : Tch (L.qb :: ws.map Prod.fst) (wo.setCell ⟨L.wb, 0, none⟩ (.int .u64 u)) w6 := by
                refine hT2.then ht6 ?_
                intro i hi' hm
                exfalso
                have := List.mem_singleton.1 hm
                simp [World.setCell] at hi'
                omega
              have hll : (left.filter (· != k)).length < left.length := by
                rw [← Nat.not_le]
                intro hle
                have := (List.length_filter_eq_length_iff (p := (· != k)) (l := left)).1 (by have := List.length_filter_le (· != k) left; omega) k hk
                simp at this
              obtain ⟨q1, q2, q3, q4, q5, -⟩ := hi6.facts
              by_cases hku : k ≤ u
              · obtain ⟨g2, cap2, n2, rfl, hcall⟩ := notifyR hi6 hat hku hit6 hnd hws
                have HCL := Lib.hid hcall
                have HLL := Lib.hid hll
                clear hat hcall hll
                go_wp2_with (first | (go_at_call 40; refine HCL.out.mono ?_; rintro e w7 ⟨rfl, hi7, hit7, ht7⟩) | go_in)
                go_roundg (left.filter (· != k)).length
                case rel => exact ⟨_, rfl, hit7, hi7, hT6.trans ht7⟩
                case measure => exact HLL.out
              · have hi7 := hi6.keepR (show u < k by omega)
                have HLL := Lib.hid hll
                have hee := esR_keep left es (show u < k by omega)
                rw [hee] at hit6
                clear hat hll hee
                go_wp2_with go_in
                go_roundg (left.filter (· != k)).length
                case rel => exact ⟨_, rfl, hit6, hi7, hT6⟩
                case measure => exact HLL.out

end Go.Proofs.Ytaheafmdkbobcaa
