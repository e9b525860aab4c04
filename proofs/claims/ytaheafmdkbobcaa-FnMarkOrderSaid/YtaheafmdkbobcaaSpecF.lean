/- spec's finish: the walk. -/
import Derived.Test.YtaheafmdkbobcaaSpecE
namespace Go.Proofs.Ytaheafmdkbobcaa
open Go.RowKit

def Finished (w : World) (tb : Nat) (fp : List Nat) (N : Nat) (q : MSt × List Int) (x : Int) (e : Ending) (w' : World) : Prop :=
  ∃ r : Bool, e = .returned (.bool r) ∧ (r = true → (∃ c, cnt? q.1.pl x = some c ∧ 1 ≤ c) ∧ LeavesT w tb fp N (next1 q.1 x true, q.2) w') ∧ (r = false → Tch [] w w')

theorem add0 (g j : Nat) : (⟨g, 0, none⟩ : Addr).add j = ⟨g, j, none⟩ := by unfold Addr.add; split <;> simp_all

theorem cut_read {WA : World} {g1 cr n m : Nat} {L : List Value} (hrow : WA.ownsRow 0 69 3 (.slice (some ⟨g1, 0, none⟩) n cr) n L) (hm : m < n) (Wp : World) (hW : Wp.Alike (WA.alloc (.cells #[] 69))) :
    ∀ j u, (L.take (m * 3))[j]? = some u → Wp.cell? ((⟨g1, 0, none⟩ : Addr).add j) = some u := by
  intro j u hu
  have hj : j < m * 3 := by
    have := (List.getElem?_eq_some_iff.1 hu).1
    rw [List.length_take] at this; omega
  rw [List.getElem?_take, if_pos hj] at hu
  have t : Tch [] WA Wp := Tch.alike ((Tch.refl _ _).alloc _) hW
  rw [add0, t.cell (p := ⟨g1, j, none⟩) (own_lt hrow rfl) (by simp), hrow.cellAt j (by omega)]
  exact hu

theorem cut_run {WA : World} {g1 cr n m : Nat} {L : List Value} (hrow : WA.ownsRow 0 69 3 (.slice (some ⟨g1, 0, none⟩) n cr) n L) (hm : m < n) (ad : Addr) (had : cr = m + 1 ∨ ad = ⟨g1, (m + 1) * 3, none⟩) (Wp : World) (hW : Wp.Alike (WA.alloc (.cells #[] 69))) :
    ∀ (v1 : Value) (w1 : World), w1.ownsRow 0 69 3 v1 (0 + m) ([] ++ L.take (m * 3)) → Wp.grownBy w1 (Value.slice (some ⟨WA.heap.size, 0, none⟩) 0 0).ownBlock → (v1.ownBlock = (Value.slice (some ⟨WA.heap.size, 0, none⟩) 0 0).ownBlock ∨ v1.ownBlock = some Wp.heap.size) →
      (∃ a1 c1, v1 = .slice a1 (0 + m) c1) ∧ Tch [] WA w1 ∧ (∀ j u, (L.drop ((m + 1) * 3))[j]? = some u → w1.cell? (ad.add j) = some u) ∧
      ∀ (wx : World), wx.Alike w1 → ∀ (v2 : Value) (w2 : World), wx.grownBy w2 v1.ownBlock → (v2.ownBlock = v1.ownBlock ∨ v2.ownBlock = some wx.heap.size) → Tch [] WA w2 ∧ ∀ k, v2.ownBlock = some k → WA.heap.size ≤ k := by
  intro v1 w1 ho hg hloc
  have t0 : Tch [] WA Wp := Tch.alike ((Tch.refl _ _).alloc _) hW
  have t1 : Tch [] WA w1 := t0.grown hg (fun k hk hlt => by simp [Value.ownBlock] at hk; omega)
  have h1 : ∀ k, v1.ownBlock = some k → WA.heap.size ≤ k := by
    intro k hk
    rcases hloc with e | e
    · rw [e] at hk; simp [Value.ownBlock] at hk; omega
    · rw [e] at hk
      have hk : Wp.heap.size = k := by simpa using hk
      have := t0.size; omega
  obtain ⟨a1, c1, e1⟩ := ownsRow_slice ho
  refine ⟨⟨a1, c1, e1⟩, t1, fun j u hu => ?_, fun wx hx v2 w2 hg2 hloc2 => ⟨(Tch.alike t1 hx).grown hg2 (fun k hk hlt => by have := h1 k hk; omega), fun k hk => ?_⟩⟩
  · have hlen := hrow.1
    have hj : (m + 1) * 3 + j < L.length := by
      have := (List.getElem?_eq_some_iff.1 hu).1
      rw [List.length_drop] at this; omega
    rw [List.getElem?_drop] at hu
    rcases had with had | rfl
    · exfalso
      obtain ⟨g', cap', e, h2, -⟩ := ownsRow_value hrow (by omega)
      simp only [Value.slice.injEq, Option.some.injEq, Addr.mk.injEq, and_true, true_and] at e
      omega
    · have e : (⟨g1, (m + 1) * 3, none⟩ : Addr).add j = ⟨g1, (m + 1) * 3 + j, none⟩ := by unfold Addr.add; split <;> simp_all
      rw [e, t1.cell (p := ⟨g1, (m + 1) * 3 + j, none⟩) (own_lt hrow rfl) (by simp), hrow.cellAt _ (by omega)]
      exact hu
  · rcases hloc2 with e | e
    · rw [e] at hk; exact h1 k hk
    · rw [e] at hk
      have hk : wx.heap.size = k := by simpa using hk
      have := t1.size
      have h2 : wx.heap.size = w1.heap.size := by rw [hx.1]
      omega

theorem cells_one (all : List Cn) : ∀ u ∈ all.flatMap cCells, u.oneCell' = true := by
  intro u hu
  obtain ⟨p, -, hp⟩ := List.mem_flatMap.1 hu
  simp only [cCells, List.mem_cons, List.not_mem_nil, or_false] at hp
  rcases hp with rfl | rfl | rfl <;> rfl

theorem cells_len (all : List Cn) : (all.flatMap cCells).length = all.length * 3 := by
  induction all with
  | nil => rfl
  | cons a l ih => rw [List.flatMap_cons, List.length_append, ih, List.length_cons]; show 3 + _ = _; omega

set_option maxRecDepth 100000
set_option maxHeartbeats 2000000 in
theorem sfinish_any (x : Int) (tb : Nat) (fp : List Nat) (N : Nat) (q : MSt × List Int) (w : World) (hN : N ≤ 90000) (h : SpAt w tb fp N q) :
    Calls Try.prog 32 #[ptr tb, .int .u64 x] w (Finished w tb fp N q x) := by
  obtain ⟨va, vw, all, hd, hfp⟩ := h
  obtain ⟨c0, c1, c2, c3, fz⟩ := hd.td.facts
  have HT := Lib.hid (Tch.refl [] w)
  have hl := hd.len
  have hl2 : all.length ≤ 90000 := by omega
  have HF := Lib.hid (find_any x tb va vw all q.1.til q.1.last q.2 w (by omega) hd.td)
  rcases findFrom_cases x all 0 with ⟨e1, e2⟩ | ⟨i, p, e1, e2, e3⟩
  · rw [e1] at HF
    clear hd hfp fz e1 e2 hl c0 c1 c2 c3
    go_enter Try.func32, Try.ntmps32
    go_wp2_with (go_at_call 34; refine HF.out.mono ?_; rintro e w1 ⟨rfl, ht1⟩; have HT1 := Lib.hid ht1; clear ht1)
    go_quiet (fail)
    go_wp2
    go_ret
    exact ⟨false, rfl, by simp, fun _ => HT1.out.drewN _⟩
  · obtain ⟨x', b, d⟩ := p
    have e3 : x' = x := e3
    subst e3
    rw [e1, Nat.zero_add] at HF
    have hi : i < all.length := (List.getElem?_eq_some_iff.1 e2).1
    obtain ⟨g, c, e, -, -⟩ := ownsRow_value hd.td.arow (by omega)
    subst e
    have hcn := hd.cn _ (List.mem_of_getElem? e2)
    simp only at hcn
    have hi1 : (i : Int) < all.length := by omega
    have t2 : decide ((i : Int) < 0) = false := by simp
    have hb1 : 0 ≤ d := by omega
    have hb2 : d ≤ 90000 := by omega
    have hne := hd.td.ne_a (g := g) rfl
    have HD := Lib.hid hd
    have HFP := Lib.hid hfp
    have HE := Lib.hid e2
    have HI := Lib.hid hi
    have hdb : d ≤ b := hcn.2.1
    clear hd hfp fz e1 e2 hl c0 c1 c2 c3 hcn hi
    by_cases hbd : d = b
    · have t3 : (d == b) = true := by simpa using hbd
      clear hbd
      go_enter Try.func32, Try.ntmps32
      go_wp2_with (go_at_call 34; refine HF.out.mono ?_; rintro e w1 ⟨rfl, ht1⟩; have htd1 := HD.out.td.tch ht1 (by simp); obtain ⟨q0, q1, q2, q3, qf⟩ := htd1.facts; obtain ⟨r0, r1, r2, rf⟩ := htd1.cell HE.out; have HT1 := Lib.hid ht1; clear ht1 htd1 qf rf q1 q2 q3)
      go_quiet (fail)
      go_wp2
      go_ret
      exact ⟨false, rfl, by simp, fun _ => HT1.out.drewN _⟩
    · have t3 : (d == b) = false := by simpa using hbd
      have hlt : d < b := by omega
      have HLT := Lib.hid hlt
      have HCNT := Lib.hid (show ∃ c, cnt? q.1.pl x' = some c ∧ 1 ≤ c from ⟨b - d, by rw [HD.out.pl]; exact cnt_plOf_some HD.out.nd (List.mem_of_getElem? HE.out) rfl, by omega⟩)
      clear hbd hlt
      go_enter Try.func32, Try.ntmps32
      go_wp2_with (go_at_call 34; refine HF.out.mono ?_; rintro e w1 ⟨rfl, ht1⟩; have htd1 := HD.out.td.tch ht1 (by simp); obtain ⟨q0, q1, q2, q3, qf⟩ := htd1.facts; obtain ⟨r0, r1, r2, rf⟩ := htd1.cell HE.out; have rf2 := rf (i * 3 + 2); have HT1 := Lib.hid ht1; clear ht1 htd1 qf rf q1 q2 q3)
      go_quiet (fail)
      go_wp2_with fail
      have hput := fin_put HD.out (HT1.out.drewN nq) HE.out HLT.out
      have hnx : next1 q.1 x' true = { q.1 with pl := (drainP q.1.pl.length (plOf (all.set i (x', b, d + 1))) q.1.til).1, til := (drainP q.1.pl.length (plOf (all.set i (x', b, d + 1))) q.1.til).2 } := by
        rw [hput.2.2]; rfl
      have hfin : FinAt w tb fp N q vw (drainP q.1.pl.length (plOf (all.set i (x', b, d + 1))) q.1.til) (some ⟨g, 0, none⟩) c (all.set i (x', b, d + 1)) q.1.til q.1.pl.length ((w1.drewN nq).setCell ⟨g, i * 3 + 2, none⟩ (.int .i64 (d + 1))) := by
        refine ⟨hput.1, by rw [HD.out.pl, List.length_set]; simp [plOf], rfl, ?_, fun k hk => .inl (HFP.out k (by rw [List.length_set] at hk; exact hk))⟩
        exact ((HT1.out.drewN nq).mono (T := fp) (by simp)).then hput.2.1 (fun k _ hm => by rw [List.mem_singleton.1 hm]; exact HFP.out _ (mem_tfoot.2 (.inr (.inl rfl))))
      have HNX := Lib.hid hnx
      have HFIN := Lib.hid hfin
      have HTB := Lib.hid (HFP.out tb (mem_tfoot.2 (.inl rfl)))
      generalize drainP q.1.pl.length (plOf (all.set i (x', b, d + 1))) q.1.til = fin at HNX HFIN
      clear hput hnx hfin
      go_loopg [] all.length (fun n wr => ∃ (a : Option Addr) (cr : Nat) (allr : List Cn) (til : Int) (nd : Nat), n = allr.length ∧ allr.length ≤ 90000 ∧ Hid (FinAt w tb fp N q vw fin a cr allr til nd wr))
      case atStart => exact ⟨_, _, _, _, _, by rw [List.length_set], by rw [List.length_set]; exact hl2, HFIN.out⟩
      case round =>
        obtain ⟨a, cr, allr, til, nd, rfl, hlr, HFA⟩ := hrel
        clear HFIN q0 r0 r1 r2 rf2
        obtain ⟨wo, rfl⟩ : ∃ wo : World, wo = wr := ⟨_, rfl⟩
        obtain ⟨c0, c1, c2, c3, fz⟩ := HFA.out.sp.td.facts
        clear c2 c3 fz
        go_wp2_with fail
        go_loopg [6, 49] allr.length (fun n s6 s49 wi => ∃ (k : Nat) (r : Int), k ≤ allr.length ∧ n = allr.length - k ∧ s49 = .int .i64 k ∧ s6 = .int .i64 r ∧ Hid (LeastI allr k r ∧ Tch [] wo wi))
        case atStart => exact ⟨0, -1, Nat.zero_le _, rfl, rfl, rfl, .inl ⟨rfl, rfl⟩, Tch.refl _ _⟩
        case round =>
          obtain ⟨k, r, hk, rfl, rfl, rfl, HLI⟩ := hrel
          by_cases hkl : k < allr.length
          · obtain ⟨g1, c1', e, -, hg1⟩ := ownsRow_value HFA.out.sp.td.arow (by omega)
            simp only [Value.slice.injEq, true_and] at e
            obtain ⟨rfl, rfl⟩ := e
            obtain ⟨⟨si, sb, sd⟩, hs⟩ : ∃ s, allr[k]? = some s := ⟨_, List.getElem?_eq_getElem hkl⟩
            have htd := HFA.out.sp.td.tch HLI.out.2 (by simp)
            obtain ⟨k0, k1, k2, -⟩ := htd.cell hs
            have z0 := htd.facts.1
            have l1 := own_lt htd.arow (k := g1) rfl
            have l2 := lt_of_obj htd.str
            have hkl1 : (k : Int) < allr.length := by omega
            have HS := Lib.hid hs
            simp only at k0 k1 k2
            rcases HLI.out.1 with ⟨rfl, rfl⟩ | ⟨m, ⟨pi, pb, pd⟩, rfl, hm, hp, hle⟩
            · have HLN := Lib.hid (LeastI.first hs)
              clear htd hs hkl
              go_wp2_with fail
              go_quiet (fail)
              go_wp2_with fail
              go_roundg (allr.length - 1)
              case rel => exact ⟨1, 0, by omega, rfl, by go_num, by go_num, HLN.out, (HLI.out.2.trans ((Tch.refl _ _).alloc _)).drewN _⟩
              case measure => omega
            · obtain ⟨m0, m1, m2, -⟩ := htd.cell hp
              simp only at m0
              have hm1 : (m : Int) < allr.length := by omega
              have t5 : decide ((m : Int) < 0) = false := by simp
              by_cases hc : si < pi
              · have t6 : decide (si < pi) = true := by simpa using hc
                have HLN := Lib.hid (LeastI.less hm hp hle hs hc)
                clear htd hs hkl hp hle hc m1 m2
                go_wp2_with fail
                go_quiet (fail)
                go_wp2_with fail
                go_roundg (allr.length - (k + 1))
                case rel => exact ⟨k + 1, k, by omega, rfl, by go_num, rfl, HLN.out, (HLI.out.2.trans ((Tch.refl _ _).alloc _)).drewN _⟩
                case measure => omega
              · have t6 : decide (si < pi) = false := by simpa using hc
                have HLN := Lib.hid (LeastI.more hm hp hle hs hc)
                clear htd hs hkl hp hle hc m1 m2
                go_wp2_with fail
                go_quiet (fail)
                go_wp2_with fail
                go_roundg (allr.length - (k + 1))
                case rel => exact ⟨k + 1, m, by omega, rfl, by go_num, rfl, HLN.out, (HLI.out.2.trans ((Tch.refl _ _).alloc _)).drewN _⟩
                case measure => omega
          · obtain rfl : k = allr.length := by omega
            have HFB := Lib.hid (HFA.out.tch HLI.out.2)
            have htd := HFB.out.sp.td
            obtain ⟨z0, z1, z2, z3, zf⟩ := htd.facts
            rcases HLI.out.1 with ⟨h0, rfl⟩ | ⟨m, ⟨pi, pb, pd⟩, rfl, hm, hp, hle⟩
            · have HE0 := Lib.hid (HFB.out.empty h0)
              clear h0 htd zf z2 z3 hkl hk
              go_wp2_with fail
              go_quiet (fail)
              go_wp2_with fail
              go_ret
              exact ⟨true, rfl, fun _ => ⟨HCNT.out, by rw [HNX.out]; exact (HFB.out.tch ((Tch.refl [] _).drewN _)).stop HE0.out⟩, by simp⟩
            · obtain ⟨g1, c1', e, -, hg1⟩ := ownsRow_value HFA.out.sp.td.arow (by omega)
              simp only [Value.slice.injEq, true_and] at e
              obtain ⟨rfl, rfl⟩ := e
              obtain ⟨m0, m1, m2, mf⟩ := htd.cell hp
              simp only at m0 m1 m2
              have hm1 : (m : Int) < allr.length := by omega
              have t5 : decide ((m : Int) < 0) = false := by simp
              by_cases hdd : pd < pb
              · have t6 : decide (pd < pb) = true := by simpa using hdd
                have HE0 := Lib.hid (HFB.out.least hp hle hdd)
                clear htd zf z2 z3 hkl hk hp hle mf hdd
                go_wp2_with fail
                go_quiet (fail)
                go_wp2_with fail
                go_ret
                exact ⟨true, rfl, fun _ => ⟨HCNT.out, by rw [HNX.out]; exact (HFB.out.tch ((Tch.refl [] _).drewN _)).stop HE0.out⟩, by simp⟩
              · have t6 : decide (pd < pb) = false := by simpa using hdd
                have zf1 := zf 1
                have HP := Lib.hid hp
                have HLE := Lib.hid hle
                have HDD := Lib.hid hdd
                clear htd zf z2 z3 hkl hk hp hle mf hdd
                go_wp2_with fail
                go_quiet (fail)
                go_upto_region 15 with fail
                have hFC := HFB.out.tch ((Tch.refl [] wr).drewN nq)
                have hst := fun (w1 : World) (l : Nat) (v' : Value) (ht : Tch [] ((wr.drewN nq).setCell ⟨tb, 1, none⟩ (.int .u64 pi)) w1) h1 h2 h3 => hFC.step HTB.out HP.out HLE.out (by have := HDD.out; simp only; omega) (w1 := w1) (l := l) (v' := v') ht h1 h2 h3
                obtain ⟨tdA, -⟩ := hFC.sp.td.set1 pi
                have hszA : ((wr.drewN nq).setCell ⟨tb, 1, none⟩ (.int .u64 pi)).heap.size = wr.heap.size := by simp [World.setCell]
                generalize hWA : (wr.drewN nq).setCell ⟨tb, 1, none⟩ (.int .u64 pi) = WA at *
                have y0 := tdA.facts.1
                have Y0 := Lib.hid y0
                have hle90 : allr.length ≤ 90000 := hlr
                have hmn : m < allr.length := hm
                obtain ⟨i0, hi, hz0', hz1', hz2'⟩ := info_parts Try.info69
                have HROW := Lib.hid tdA.arow
                have HST := Lib.hid hst
                have HSZ := Lib.hid hszA
                have lA := own_lt tdA.arow (k := g1) rfl
                have lB := lt_of_obj tdA.str
                clear hWA hFC hst tdA hszA z0 z1 m0 m1 m2 zf1
                have hcr : allr.length ≤ cr := by
                  obtain ⟨g', cap', e, h2, -⟩ := ownsRow_value HROW.out (by omega)
                  simp only [Value.slice.injEq, Option.some.injEq, Addr.mk.injEq, and_true, true_and] at e
                  omega
                have hmc : (m : Int) ≤ cr := by omega
                have hcr0 : ¬ cr = 0 := by omega
                have hmc1 : (m : Int) + 1 ≤ allr.length := by omega
                have hmc2 : (m : Int) + 1 ≤ cr := by omega
                have hmc3 : (0 : Int) ≤ (m : Int) + 1 := by omega
                have hmc4 : (m : Int) ≤ (m : Int) + 1 := by omega
                have hwr : IntKind.i64.wrap ((m : Int) + 1) = (m : Int) + 1 := IntWalk.i64_in _ (by omega)
                have htn : ((m : Int) + 1).toNat = m + 1 := by omega
                obtain ⟨l, HLV⟩ : ∃ l, Hid (l = 0 + m + (allr.length - (m + 1))) := ⟨_, Lib.hid rfl⟩
                have HRD := Lib.hid (cut_read HROW.out hmn)
                have HL1 := Lib.hid (show ((allr.flatMap cCells).take (m * 3)).length = m * 3 from by rw [List.length_take, cells_len]; omega)
                have HL2 := Lib.hid (show ((allr.flatMap cCells).drop ((m + 1) * 3)).length = (allr.length - (m + 1)) * 3 from by rw [List.length_drop, cells_len]; omega)
                have HC1 := Lib.hid (show ∀ u ∈ (allr.flatMap cCells).take (m * 3), u.oneCell' = true from fun u hu => cells_one allr u (List.mem_of_mem_take hu))
                have HC2 := Lib.hid (show ∀ u ∈ (allr.flatMap cCells).drop ((m + 1) * 3), u.oneCell' = true from fun u hu => cells_one allr u (List.mem_of_mem_drop hu))
                by_cases hcm : cr = m + 1
                · subst hcm
                  have HK := Lib.hid (cut_run HROW.out hmn ⟨g1, 0, none⟩ (.inl rfl))
                  go_region_law (first | (refine step_append_own rfl (.tmp 104) (.tmp 110) 42 rfl 0 69 i0 (.agg #[.int .u64 0, .int .i64 0, .int .i64 0]) 3 24 Try.underlying42 hi hz0' hz1' hz2' rfl (by decide) (.slice (some ⟨WA.heap.size, 0, none⟩) 0 0) 0 [] (by first | (simp [Act.eval, Act.put]; done) | (simp [Act.eval, Act.put]; omega)) (by exact row_new (w := WA) 69 3) ⟨g1, 0, none⟩ m (m + 1) ((allr.flatMap cCells).take (m * 3)) (by first | (simp [Act.eval, Act.put]; done) | (simp [Act.eval, Act.put]; omega)) HL1.out (by exact HRD.out _ ⟨rfl, rfl, rfl⟩) HC1.out (by unfold maxLen; omega) (by omega) (Nat.zero_le _) ?_; intro v1 w1 ho hg hloc; obtain ⟨⟨a1, c1, rfl⟩, htt, hrd, hk⟩ := HK.out _ (by exact ⟨rfl, rfl, rfl⟩) _ _ ho hg hloc; have y1 := (htt.cell (p := ⟨tb, 0, none⟩) lB (by simp)).trans Y0.out; have HRD2 := Lib.hid hrd; have HK2 := Lib.hid hk; have HO1 := Lib.hid ho; clear htt hrd hk ho hg hloc) | (refine step_append_own rfl (.tmp 111) (.tmp 118) 42 rfl 0 69 i0 (.agg #[.int .u64 0, .int .i64 0, .int .i64 0]) 3 24 Try.underlying42 hi hz0' hz1' hz2' rfl (by decide) (.slice a1 (0 + m) c1) (0 + m) _ (by first | (simp [Act.eval, Act.put]; done) | (simp [Act.eval, Act.put]; omega)) (by exact HO1.out) ⟨g1, 0, none⟩ (allr.length - (m + 1)) 0 ((allr.flatMap cCells).drop ((m + 1) * 3)) (by first | (simp [Act.eval, Act.put]; done) | (simp [Act.eval, Act.put]; omega)) HL2.out (by exact HRD2.out) HC2.out (by unfold maxLen; omega) (by omega) (Nat.zero_le _) ?_; intro v2 w2 ho hg hloc; obtain ⟨f1, f2⟩ := HK2.out _ (by exact ⟨rfl, rfl, rfl⟩) v2 w2 hg hloc; obtain ⟨n1, n2, a', c', all', n', rfl, hl', hlt', hfin'⟩ := HST.out w2 l v2 f1 (by have := HLV.out; omega) (by rw [HLV.out, List.flatMap_append, flat_take, flat_drop]; simpa using ho) (by intro k hk; have := f2 k hk; rw [HSZ.out] at this; exact this); have HFN := Lib.hid hfin'; have HLL := Lib.hid hl'; have HLT := Lib.hid hlt'; clear f1 f2 ho hg hloc hl' hlt' hfin'))
                  all_goals (go_wp2_with fail; go_roundg l)
                  all_goals first
                    | exact ⟨a', c', all', pi, n', HLL.out.symm, (by have h1 := HLT.out; have h2 := HLL.out; omega), HFN.out⟩
                    | exact HLT.out
                · have HK := Lib.hid (cut_run HROW.out hmn ⟨g1, (m + 1) * 3, none⟩ (.inr rfl))
                  go_region_law (first | (refine step_append_own rfl (.tmp 104) (.tmp 110) 42 rfl 0 69 i0 (.agg #[.int .u64 0, .int .i64 0, .int .i64 0]) 3 24 Try.underlying42 hi hz0' hz1' hz2' rfl (by decide) (.slice (some ⟨WA.heap.size, 0, none⟩) 0 0) 0 [] (by first | (simp [Act.eval, Act.put]; done) | (simp [Act.eval, Act.put]; omega)) (by exact row_new (w := WA) 69 3) ⟨g1, 0, none⟩ m cr ((allr.flatMap cCells).take (m * 3)) (by first | (simp [Act.eval, Act.put]; done) | (simp [Act.eval, Act.put]; omega)) HL1.out (by exact HRD.out _ ⟨rfl, rfl, rfl⟩) HC1.out (by unfold maxLen; omega) (by omega) (Nat.zero_le _) ?_; intro v1 w1 ho hg hloc; obtain ⟨⟨a1, c1, rfl⟩, htt, hrd, hk⟩ := HK.out _ (by exact ⟨rfl, rfl, rfl⟩) _ _ ho hg hloc; have y1 := (htt.cell (p := ⟨tb, 0, none⟩) lB (by simp)).trans Y0.out; have HRD2 := Lib.hid hrd; have HK2 := Lib.hid hk; have HO1 := Lib.hid ho; clear htt hrd hk ho hg hloc) | (refine step_append_own rfl (.tmp 111) (.tmp 118) 42 rfl 0 69 i0 (.agg #[.int .u64 0, .int .i64 0, .int .i64 0]) 3 24 Try.underlying42 hi hz0' hz1' hz2' rfl (by decide) (.slice a1 (0 + m) c1) (0 + m) _ (by first | (simp [Act.eval, Act.put]; done) | (simp [Act.eval, Act.put]; omega)) (by exact HO1.out) ⟨g1, (m + 1) * 3, none⟩ (allr.length - (m + 1)) (cr - (m + 1)) ((allr.flatMap cCells).drop ((m + 1) * 3)) (by first | (simp [Act.eval, Act.put]; done) | (simp [Act.eval, Act.put]; omega)) HL2.out (by exact HRD2.out) HC2.out (by unfold maxLen; omega) (by omega) (Nat.zero_le _) ?_; intro v2 w2 ho hg hloc; obtain ⟨f1, f2⟩ := HK2.out _ (by exact ⟨rfl, rfl, rfl⟩) v2 w2 hg hloc; obtain ⟨n1, n2, a', c', all', n', rfl, hl', hlt', hfin'⟩ := HST.out w2 l v2 f1 (by have := HLV.out; omega) (by rw [HLV.out, List.flatMap_append, flat_take, flat_drop]; simpa using ho) (by intro k hk; have := f2 k hk; rw [HSZ.out] at this; exact this); have HFN := Lib.hid hfin'; have HLL := Lib.hid hl'; have HLT := Lib.hid hlt'; clear f1 f2 ho hg hloc hl' hlt' hfin'))
                  all_goals (go_wp2_with fail; go_roundg l)
                  all_goals first
                    | exact ⟨a', c', all', pi, n', HLL.out.symm, (by have h1 := HLT.out; have h2 := HLL.out; omega), HFN.out⟩
                    | exact HLT.out

end Go.Proofs.Ytaheafmdkbobcaa
