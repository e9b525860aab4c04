/- spec.RunMark: the walk. -/
import Derived.Test.YtaheafmdkbobcaaSpecO
import Derived.Deep.CutBlock
import Derived.Deep.RegionHeld3
import Derived.Outline
namespace Go.Proofs.Ytaheafmdkbobcaa
open Go.RowKit
set_option maxRecDepth 100000

theorem size_alloc2 (w : World) (o o' : Obj) : ((w.alloc o).alloc o').heap.size = w.heap.size + 2 := by simp

theorem InB.start (w6 : World) (rt rl rp rw : Int) (fs : List Bool) : InB w6 ((w6.alloc (.cells #[] 4)).alloc (.cells #[.int .u64 rt, .int .u64 rl, .int .i64 rp, .int .i64 rw, .slice (some ⟨w6.heap.size, 0, none⟩) 0 0] 35)).drew (w6.heap.size + 1) rt rl rp rw fs 0 w6.heap.size 0 := by
  refine ⟨(((Tch.refl _ _).alloc _).alloc _).drew, ?_, ?_, Nat.le_refl _, Nat.le_succ _⟩
  · show ((w6.alloc (.cells #[] 4)).alloc (.cells #[.int .u64 rt, .int .u64 rl, .int .i64 rp, .int .i64 rw, .slice (some ⟨w6.heap.size, 0, none⟩) 0 0] 35)).heap[w6.heap.size + 1]? = _
    rw [heap_get_alloc, if_pos (by simp)]
  · exact (row_new (w := w6) 4 1).alloc _

theorem InB.start2 (w6 : World) (rt rl rp rw : Int) (fs : List Bool) : InB w6 ((w6.alloc (.cells #[.int .u64 rt, .int .u64 rl, .int .i64 rp, .int .i64 rw, .slice (some ⟨w6.heap.size + 1, 0, none⟩) 0 0] 35)).alloc (.cells #[] 4)).drew w6.heap.size rt rl rp rw fs 0 (w6.heap.size + 1) 0 := by
  refine ⟨(((Tch.refl _ _).alloc _).alloc _).drew, ?_, ?_, Nat.le_succ _, Nat.le_refl _⟩
  · show ((w6.alloc (.cells #[.int .u64 rt, .int .u64 rl, .int .i64 rp, .int .i64 rw, .slice (some ⟨w6.heap.size + 1, 0, none⟩) 0 0] 35)).alloc (.cells #[] 4)).heap[w6.heap.size]? = _
    rw [heap_get_alloc, if_neg (by simp), heap_get_alloc, if_pos rfl]
  · have h := row_new (w := w6.alloc (.cells #[.int .u64 rt, .int .u64 rl, .int .i64 rp, .int .i64 rw, .slice (some ⟨w6.heap.size + 1, 0, none⟩) 0 0] 35)) 4 1
    have e : (w6.alloc (.cells #[.int .u64 rt, .int .u64 rl, .int .i64 rp, .int .i64 rw, .slice (some ⟨w6.heap.size + 1, 0, none⟩) 0 0] 35)).heap.size = w6.heap.size + 1 := by simp
    rw [e] at h
    exact h

theorem srun_start (w : World) : SRun w ((w.alloc (.cells #[.slice none 0 0, .int .u64 0, .int .u64 0, .slice none 0 0] 44)).alloc (.cells #[] 35)) w.heap.size [w.heap.size] 0 (new0, []) (.slice (some ⟨w.heap.size + 1, 0, none⟩) 0 0) [] := by
  have ta : Tch [] w ((w.alloc (.cells #[.slice none 0 0, .int .u64 0, .int .u64 0, .slice none 0 0] 44)).alloc (.cells #[] 35)) := ((Tch.refl _ _).alloc _).alloc _
  refine ⟨ta, ⟨.slice none 0 0, .slice none 0 0, [], ⟨⟨?_, World.ownsRow_nil _ _ _ _, World.ownsRow_nil _ _ _ _⟩, rfl, by simp, by simp, by simp, by simp⟩, ?_⟩, ?_, ?_, ?_, by simp⟩
  · rw [heap_get_alloc, if_neg (by simp), heap_get_alloc, if_pos rfl]; rfl
  · intro k hk
    rcases mem_tfoot.1 hk with rfl | hk | hk
    · simp
    · simp [Value.ownBlock] at hk
    · simp [Value.ownBlock] at hk
  · intro k hk
    have := List.mem_singleton.1 hk
    subst this
    exact ⟨Nat.le_refl _, by simp only [size_alloc2]; omega⟩
  · have := row_new (w := w.alloc (.cells #[.slice none 0 0, .int .u64 0, .int .u64 0, .slice none 0 0] 44)) 35 5
    simpa using this
  · intro k hk
    have hk : w.heap.size + 1 = k := by simpa [Value.ownBlock] using hk
    exact ⟨by omega, by simp; omega⟩

set_option maxHeartbeats 4000000 in
theorem srun_any (L : List Stp) (sa : Option Addr) (cz : Nat) (w : World) (hwt : wt L ≤ 5000) (hll : L.length ≤ 5000) (hst : StepsAt w sa L)
    (hu : ∀ i, i < L.length → (L.getD i default).idx ≤ MAX ∧ ∀ z ∈ (L.getD i default).many, z ≤ MAX) :
    Calls Try.prog 14 #[.slice sa L.length cz] w (SRan w L) := by
  have HST := Lib.hid hst
  have HU := Lib.hid hu
  have HS0 := Lib.hid (srun_start w)
  clear hst hu
  go_enter Try.func14, Try.ntmps14
  go_wp2_with fail
  go_loopg [5, 16] L.length (fun n s5 s16 wr => ∃ (k : Nat) (fp : List Nat) (outs : List (TR × Value)) (h co : Nat), k ≤ L.length ∧ n = L.length - k ∧ s16 = .int .i64 k ∧ s5 = .slice (some ⟨h, 0, none⟩) k co ∧
      Hid (SRun w wr w.heap.size fp (wt (L.take k)) (St L k) (.slice (some ⟨h, 0, none⟩) k co) outs ∧ outs.map Prod.fst = (List.range k).map (fun k => tell (St L (k + 1))) ∧ ∀ i, i < k → okStp (St L i).1 (St L i).2 (L.getD i default)))
  case atStart => exact ⟨0, _, [], _, _, Nat.zero_le _, rfl, rfl, rfl, HS0.out, rfl, fun i hi => absurd hi (Nat.not_lt_zero i)⟩
  case round =>
    obtain ⟨k, fp, outs, h, co, hk, rfl, rfl, rfl, HR⟩ := hrel
    obtain ⟨wo, rfl⟩ : ∃ wo : World, wo = wr := ⟨_, rfl⟩
    clear HS0
    by_cases hlt : k < L.length
    · have hlt2 : (k : Int) < L.length := by omega
      obtain ⟨a, rfl, hsa⟩ := HST.out k hlt
      have hus := HU.out k hlt
      have hws := wt_succ (L := L) hlt
      have hwl := wt_take L (k + 1)
      have hs := St_succ hlt
      generalize hp : L.getD k default = p at *
      obtain ⟨kd, ix, zs⟩ := p
      obtain ⟨am, cm, m1, m2, m3⟩ := hsa.many
      have T := HR.out.1.t
      have k0 : wo.cell? (a.add (k * 3)) = some (.int .i64 kd) := by rw [T.cell (by rw [add_block]; have := hsa.lt; rw [add_block] at this; exact this) (by simp)]; exact hsa.kind
      have k1 : wo.cell? ⟨(a.add (k * 3)).block, (a.add (k * 3)).off + 1, none⟩ = some (.int .u64 ix) := by rw [T.cell (p := ⟨(a.add (k * 3)).block, (a.add (k * 3)).off + 1, none⟩) hsa.lt (by simp)]; exact hsa.idx
      have k2 : wo.cell? ⟨(a.add (k * 3)).block, (a.add (k * 3)).off + 2, none⟩ = some (.slice am zs.length cm) := by rw [T.cell (p := ⟨(a.add (k * 3)).block, (a.add (k * 3)).off + 2, none⟩) hsa.lt (by simp)]; exact m1
      have kl : (a.add (k * 3)).block < wo.heap.size := Nat.lt_of_lt_of_le hsa.lt T.size
      simp only at hus hws
      have tb : Tch [] wo (wo.alloc (stepObj kd ix am zs.length cm)) := (Tch.refl _ _).alloc _
      have HC := Lib.hid (sstep_any kd ix am cm zs w.heap.size fp (wt (L.take k)) (St L k) (wo.alloc (stepObj kd ix am zs.length cm)) (by omega) hus.1 hus.2 (HR.out.1.sp.tch tb) m2
        (fun ad hd j hj => ⟨Nat.lt_of_lt_of_le (m3 ad hd j hj).1 (T.trans tb).size, by rw [(T.trans tb).cell (by rw [add_block]; exact (m3 ad hd j hj).1) (by simp)]; exact (m3 ad hd j hj).2⟩)
        (fun ad hd h0 hm => by have h1 := (HR.out.1.fn _ hm).1; have h2 := (m3 ad hd 0 h0).1; omega))
      have HTB := Lib.hid tb
      have HP := Lib.hid hp
      have HWS := Lib.hid hws
      have HSS := Lib.hid hs
      have HUS := Lib.hid hus
      clear hp hws hs hus m1 m2 m3 hsa tb T hwl
      go_wp2_with (go_at_call 18; refine HC.out.mono ?_; rintro e w1 ⟨r, rfl, h1, h2⟩; have HA := Lib.hid h1; have HB := Lib.hid h2; clear h1 h2; cases r)
      · go_ret2
        exact ⟨false, _, rfl, (HR.out.1.t.trans HTB.out).then (HB.out trivial) (fun i hi hm => absurd (HR.out.1.fn i hm).1 (by omega)), by simp⟩
      obtain ⟨hok1, hl⟩ := HA.out trivial
      obtain ⟨fp', hr1⟩ := (HR.out.1.tch HTB.out).step hl
      rw [← HSS.out] at hr1
      have HOK1 := Lib.hid hok1
      have HR1 := Lib.hid hr1
      obtain ⟨va, vw, all, hd, hfp⟩ := hr1.sp
      obtain ⟨c0, c1, c2, c3, fz⟩ := hd.td.facts
      obtain ⟨aa, ca, rfl⟩ := ownsRow_slice hd.td.arow
      obtain ⟨aw, cw, rfl⟩ := ownsRow_slice hd.td.wrow
      have hwsl := hd.wlen; have hwl2 := wt_take L (k + 1); have hwz := HWS.out
      have HFP := Lib.hid hfp
      have HWL := Lib.hid (show (St L (k + 1)).2.length ≤ 5000 by omega)
      obtain ⟨j0, hj, hz0, hz1, hz2⟩ := info_parts Try.info4
      have HJ := Lib.hid hj
      clear hj
      have HCW := Lib.hid (fun (w' : World) (t : Tch [] w1 w') => swaiting_any w.heap.size _ _ all _ _ _ w' (by omega) (hd.td.tch t (by simp)))
      have hd0 := Lib.hid hd.td
      have HD := Lib.hid hd
      clear hok1 hl hr1 hd hfp fz HA HB HC k0 k1 k2 kl hwsl hwl2 hwz
      have hne := World.new_ne w1 ⟨w.heap.size, 0, none⟩ c0
      have HI1 := Lib.hid (fun (rp rw : Int) => InB.start w1 (St L (k + 1)).1.til (St L (k + 1)).1.last rp rw ((St L (k + 1)).2.map (fun i => decide (i ≤ (St L (k + 1)).1.til))))
      have HI2 := Lib.hid (fun (rp rw : Int) => InB.start2 w1 (St L (k + 1)).1.til (St L (k + 1)).1.last rp rw ((St L (k + 1)).2.map (fun i => decide (i ≤ (St L (k + 1)).1.til))))
      go_upto_region 8 with fail
      go_cut [8] from 25 to 41 (fun s8 wx => ∃ (bx gd : Nat), s8 = ptr bx ∧ Hid (InB w1 wx bx (St L (k + 1)).1.til (St L (k + 1)).1.last all.length (cntW (St L (k + 1)).2 (St L (k + 1)).1.til) ((St L (k + 1)).2.map (fun i => decide (i ≤ (St L (k + 1)).1.til))) 0 gd 0))
      case first =>
        go_region_held3 (fun w' => w'.cell? ⟨w.heap.size, 0, none⟩ = some (.slice aa all.length ca) ∧ w'.cell? ⟨w.heap.size, 1, none⟩ = some (.int .u64 (St L (k + 1)).1.til) ∧ w'.cell? ⟨w.heap.size, 2, none⟩ = some (.int .u64 (St L (k + 1)).1.last))
          (go_keep)
          (first | (go_at_call 19; refine (HCW.out _ ?_).mono ?_; (repeat (first | exact Tch.refl _ _ | refine Tch.drew ?_ | refine Tch.alloc ?_ _)); rintro e w9 ⟨rfl, rfl⟩))
        all_goals (try go_wp2_with fail)
        all_goals go_meet
        all_goals first
          | exact ⟨_, _, rfl, HI1.out _ _⟩
          | exact ⟨_, _, rfl, HI2.out _ _⟩
      case rest =>
      obtain ⟨bx, gd0, rfl, HST0⟩ := hcut
      clear HI1 HI2
      have htd0 := hd0.out.tch HST0.out.t (by simp)
      obtain ⟨-, -, -, c3', -⟩ := htd0.facts
      clear htd0 c0 c1 c2 c3
      go_wp2_with fail
      go_loopg [47] (St L (k + 1)).2.length (fun n s47 wr => ∃ (j gd cd : Nat), j ≤ (St L (k + 1)).2.length ∧ n = (St L (k + 1)).2.length - j ∧ s47 = .int .i64 j ∧ Hid (InB w1 wr bx (St L (k + 1)).1.til (St L (k + 1)).1.last all.length (cntW (St L (k + 1)).2 (St L (k + 1)).1.til) ((St L (k + 1)).2.map (fun i => decide (i ≤ (St L (k + 1)).1.til))) j gd cd))
      case atStart => exact ⟨0, _, _, Nat.zero_le _, rfl, rfl, HST0.out⟩
      case round =>
        obtain ⟨j, gd, cd, hjl, rfl, rfl, HIN⟩ := hrel
        clear HST0 c3'
        by_cases hj2 : j < (St L (k + 1)).2.length
        · have hj3 : (j : Int) < (St L (k + 1)).2.length := by omega
          have htd := hd0.out.tch HIN.out.t (by simp)
          obtain ⟨-, c1, -, -, -⟩ := htd.facts
          obtain ⟨gw, cw', e, -, -⟩ := ownsRow_value htd.wrow (by omega)
          simp only [Value.slice.injEq, true_and] at e
          obtain ⟨rfl, rfl⟩ := e
          have ce := cellOf htd.wrow hj2
          have hb := HIN.out.box
          have b4 : wr.cell? ⟨bx, 4, none⟩ = some (.slice (some ⟨gd, 0, none⟩) j cd) := by rw [cell_of_row wr _ _ _ 35 (0, 0) hb]; rfl
          have ff := frozen_of_row wr _ 4 _ 35 hb
          have hl1 := lt_of_obj hb
          have hl2 := lt_of_obj htd.str
          obtain ⟨f, hf⟩ : ∃ f : Bool, decide ((St L (k + 1)).2.getD j 0 ≤ (St L (k + 1)).1.til) = f := ⟨_, rfl⟩
          have HK := Lib.hid (fun (Wp : World) (hWp : Wp.Alike (wr.alloc (.cells #[.bool f] 4))) => HIN.out.step (f := f) (by
            rw [take_getD _ false (by rw [List.length_map]; exact hj2), ← hf]
            congr 2
            simp [List.getD, List.getElem?_map, List.getElem?_eq_getElem hj2]) hWp)
          have HRW := Lib.hid HIN.out.row
          have hjw : j ≤ 5000 := by have := HWL.out; omega
          generalize (St L (k + 1)).2.getD j 0 = x at ce hf
          clear htd hb HIN hj2
          go_wp2_with fail
          go_region_law (refine step_append_own rfl (.tmp 52) (.tmp 59) 33 rfl 0 4 j0 (.bool false) 1 1 Try.underlying33 HJ.out hz0 hz1 hz2 rfl (by decide) (.slice (some ⟨gd, 0, none⟩) j cd) _ _ (by simp [Act.eval]) (HRW.out.alloc _) ⟨wr.heap.size, 0, none⟩ 1 1 [.bool f] (by simp [Act.eval]) rfl (cell_one_new _ _ _) (by simp [Value.oneCell']) (by unfold maxLen; omega) (by omega) (Nat.zero_le _) ?_; intro v' w7 ho hg hloc; obtain ⟨n1, n2, g2, c2, rfl, hk⟩ := HK.out _ (by exact ⟨rfl, rfl, rfl⟩) _ _ ho hg hloc; have HK2 := Lib.hid hk; clear hk ho hg hloc)
          all_goals (go_wp2_with fail; go_roundg ((St L (k + 1)).2.length - (j + 1)))
          all_goals first
            | exact ⟨j + 1, g2, c2, by omega, rfl, by go_num, HK2.out⟩
            | omega
        · obtain rfl : j = (St L (k + 1)).2.length := by omega
          have hol : outs.length = k := by
            have := congrArg List.length HR.out.2.1
            simpa using this
          have h7 := HR1.out.tch HIN.out.t
          have hb := HIN.out.box
          have e0 : wr.cell? ⟨bx, 0, none⟩ = some (.int .u64 (St L (k + 1)).1.til) := by rw [cell_of_row wr _ _ _ 35 (0, 0) hb]; rfl
          have e1 : wr.cell? ⟨bx, 1, none⟩ = some (.int .u64 (St L (k + 1)).1.last) := by rw [cell_of_row wr _ _ _ 35 (0, 0) hb]; rfl
          have e2 : wr.cell? ⟨bx, 2, none⟩ = some (.int .i64 all.length) := by rw [cell_of_row wr _ _ _ 35 (0, 0) hb]; rfl
          have e3 : wr.cell? ⟨bx, 3, none⟩ = some (.int .i64 (cntW (St L (k + 1)).2 (St L (k + 1)).1.til)) := by rw [cell_of_row wr _ _ _ 35 (0, 0) hb]; rfl
          have e4 : wr.cell? ⟨bx, 4, none⟩ = some (.slice (some ⟨gd, 0, none⟩) (St L (k + 1)).2.length cd) := by rw [cell_of_row wr _ _ _ 35 (0, 0) hb]; rfl
          have hrow : wr.ownsRow 0 35 5 (.slice (some ⟨h, 0, none⟩) k co) k (outs.flatMap outCells) := by
            have := h7.orow
            rw [hol] at this; exact this
          have hdr : wr.ownsRow 0 4 1 (.slice (some ⟨gd, 0, none⟩) (St L (k + 1)).2.length cd) (tell (St L (k + 1))).done.length ((tell (St L (k + 1))).done.map Value.bool) := by
            have := HIN.out.row
            rw [List.take_of_length_le (by rw [List.length_map]; exact Nat.le_refl _)] at this
            have e : (tell (St L (k + 1))).done = (St L (k + 1)).2.map (fun i => decide (i ≤ (St L (k + 1)).1.til)) := rfl
            rw [e, List.length_map]; exact this
          have hpl : (tell (St L (k + 1))).pend = (all.length : Int) := by
            have : (St L (k + 1)).1.pl = plOf all := HD.out.pl
            show (((St L (k + 1)).1.pl.length : Nat) : Int) = _
            rw [this, plOf_len]
          have HA := Lib.hid (out_app wr h k co (outs.flatMap outCells) ((tell (St L (k + 1)), .slice (some ⟨gd, 0, none⟩) (St L (k + 1)).2.length cd) : TR × Value) 24 hrow (by omega) rfl)
          rw [hpl] at HA
          have HFIN : Hid (∀ (g7 c7 : Nat) (w7 : World), w7.ownsRow 0 35 5 (.slice (some ⟨g7, 0, none⟩) (k + 1) c7) (k + 1) (outs.flatMap outCells ++ outCells ((tell (St L (k + 1)), .slice (some ⟨gd, 0, none⟩) (St L (k + 1)).2.length cd) : TR × Value)) →
              (wr.alloc (.cells #[.int .u64 (tell (St L (k + 1))).til, .int .u64 (tell (St L (k + 1))).last, .int .i64 all.length, .int .i64 (tell (St L (k + 1))).wait, .slice (some ⟨gd, 0, none⟩) (St L (k + 1)).2.length cd] 35)).grownBy w7 (Value.slice (some ⟨h, 0, none⟩) k co).ownBlock →
              ((Value.slice (some ⟨g7, 0, none⟩) (k + 1) c7).ownBlock = (Value.slice (some ⟨h, 0, none⟩) k co).ownBlock ∨ (Value.slice (some ⟨g7, 0, none⟩) (k + 1) c7).ownBlock = some (wr.alloc (.cells #[.int .u64 (tell (St L (k + 1))).til, .int .u64 (tell (St L (k + 1))).last, .int .i64 all.length, .int .i64 (tell (St L (k + 1))).wait, .slice (some ⟨gd, 0, none⟩) (St L (k + 1)).2.length cd] 35)).heap.size) →
              ∃ outs', SRun w w7 w.heap.size fp' (wt (L.take (k + 1))) (St L (k + 1)) (.slice (some ⟨g7, 0, none⟩) (k + 1) c7) outs' ∧ outs'.map Prod.fst = (List.range (k + 1)).map (fun k => tell (St L (k + 1)))) := by
            refine Lib.hid (fun g7 c7 w7 n1 n2 n3 => ⟨outs ++ [(tell (St L (k + 1)), .slice (some ⟨gd, 0, none⟩) (St L (k + 1)).2.length cd)], ?_, ?_⟩)
            · rw [HWS.out]
              exact HR1.out.tells (r := tell (St L (k + 1))) (dv := .slice (some ⟨gd, 0, none⟩) (St L (k + 1)).2.length cd) HIN.out.t hdr (fun q hq => by
                have hq : gd = q := by simpa [Value.ownBlock] using hq
                have := HIN.out.gn
                omega) (by rw [hol]; exact n1) n2 n3
            · rw [List.map_append, HR.out.2.1, List.range_succ, List.map_append]
              rfl
          have hk2 : (k : Int) < 5000 := by omega
          have l1 := lt_of_obj hb
          clear hol h7 hb hrow hdr HIN hj2 hpl
          go_wp2_with (at_builtin; refine wpList_append_run rfl (.tmp 63) (.tmp 65) 24 rfl (.slice (some ⟨h, 0, none⟩) k co) (.slice (some ⟨wr.heap.size, 0, none⟩) 1 1) (by simp [Act.eval]) (by simp [Act.eval]) _ HA.out ?_; rintro vv w7 ⟨g7, c7, rfl, n1, n2, n3⟩; obtain ⟨outs7, hR7⟩ := HFIN.out _ _ _ n1 n2 n3; have HR7 := Lib.hid hR7; clear hR7 n1 n2 n3)
          go_roundg (L.length - (k + 1))
          case rel =>
            refine ⟨k + 1, fp', outs7, g7, c7, by omega, rfl, by go_num, rfl, HR7.out.1, HR7.out.2, fun i hi => ?_⟩
            by_cases e : i = k
            · rw [e, HP.out]; exact HOK1.out
            · exact HR.out.2.2 i (by omega)
          case measure => omega
    · obtain rfl : k = L.length := by omega
      clear hlt hk HST
      go_wp2_with fail
      go_ret2
      obtain ⟨hr, hm, hok⟩ := HR.out
      exact ⟨true, _, rfl, hr.t, fun _ => ⟨hok, outs, ⟨hr.t, by have := hr.orow; exact this, fun k hk => (hr.on k hk).1, fun p hp => ⟨(hr.dn p hp).1, fun k hk => ((hr.dn p hp).2 k hk).1⟩⟩, hm⟩⟩

end Go.Proofs.Ytaheafmdkbobcaa
