/- impl.made: the walk, as far as the package's own door. -/
import Derived.Test.YtdofgamahjmohaaLvN
namespace Go.Proofs.Ytdofgamahjmohaa
open Go.RowKit
set_option maxRecDepth 100000

theorem optionsOf_any (lv lt tt zt bl bt mt di : Int) (w : World) :
    Calls Try.prog 45 #[.agg #[.int .i64 lv, .int .i64 lt, .int .i64 tt, .int .i64 zt, .int .i64 bl, .int .i64 bt, .int .i64 mt, .int .u64 di]] w fun e w' => e = .returned (.agg #[.int .i64 lv, .int .i64 lt, .int .i64 tt, .int .i64 zt, .int .i64 bl, .int .i64 bt, .int .i64 mt, .int .u64 di]) ∧ Tch [] w w' := by
  have HT := Lib.hid (((Tch.refl [] w).alloc (.cells #[.int .i64 lv, .int .i64 lt, .int .i64 tt, .int .i64 zt, .int .i64 bl, .int .i64 bt, .int .i64 mt, .int .u64 di] 32)).alloc (.cells #[.int .i64 lv, .int .i64 lt, .int .i64 tt, .int .i64 zt, .int .i64 bl, .int .i64 bt, .int .i64 mt, .int .u64 di] 69))
  go_enter Try.func45, Try.ntmps45
  go_wp2
  (try simp only [Exit.inBlock, Exit.then])
  refine bodyPost_ret (results_cell_row rfl _ _ (w.heap.size + 1) 69 #[.int .i64 lv, .int .i64 lt, .int .i64 tt, .int .i64 zt, .int .i64 bl, .int .i64 bt, .int .i64 mt, .int .u64 di] (0, 0) _ rfl (by rw [heap_get_alloc, if_pos (by simp)]) Try.underlying69 rfl (by kernel_rfl)) rfl ?_
  exact ⟨rfl, HT.out⟩

set_option maxHeartbeats 2000000 in
theorem made_any (LL : List (List Tb)) (la : Option Addr) (c : Nat) (lv lt tt zt bl bt mt di : Int) (w : World) (h : LvAt w LL la c) (h7 : LL.length ≤ 7) (h30 : ∀ ts ∈ LL, ts.length ≤ 30) (hsh : ∀ ts ∈ LL, ∀ t ∈ ts, t.short) (hwh : ∀ ts ∈ LL, ∀ t ∈ ts, t.whole)
    (R : World → Value → World → Prop)
    (hnew : ∀ (qs : List (List (Tb × Nat × Nat) × Option Addr × Nat)) (a : Option Addr) (n c : Nat) (w' : World), Tch [] w w' → qTs qs = LL → n = LL.length → PlRow 0 w' qs a n c → Calls Try.prog 44 #[.slice a n c, .agg #[.int .i64 lv, .int .i64 lt, .int .i64 tt, .int .i64 zt, .int .i64 bl, .int .i64 bt, .int .i64 mt, .int .u64 di]] w' (fun e w'' => ∃ v, e = .returned v ∧ R w' v w'')) :
    Calls Try.prog 31 #[.slice la LL.length c, .agg #[.int .i64 lv, .int .i64 lt, .int .i64 tt, .int .i64 zt, .int .i64 bl, .int .i64 bt, .int .i64 mt, .int .u64 di]] w (fun e w'' => ∃ w' v, Tch [] w w' ∧ e = .returned v ∧ R w' v w'') := by
  have HST := Lib.hid h
  have H30 := Lib.hid h30
  have HSH := Lib.hid hsh
  have HWH := Lib.hid hwh
  have HNEW := Lib.hid hnew
  have h7i : (LL.length : Int) ≤ 7 := by omega
  have T0 : Tch [] w (w.alloc (.cells #[.int .i64 lv, .int .i64 lt, .int .i64 tt, .int .i64 zt, .int .i64 bl, .int .i64 bt, .int .i64 mt, .int .u64 di] 32)) := (Tch.refl [] w).alloc _
  have hbo : (w.alloc (.cells #[.int .i64 lv, .int .i64 lt, .int .i64 tt, .int .i64 zt, .int .i64 bl, .int .i64 bt, .int .i64 mt, .int .u64 di] 32)).heap[w.heap.size]? = some (.cells #[.int .i64 lv, .int .i64 lt, .int .i64 tt, .int .i64 zt, .int .i64 bl, .int .i64 bt, .int .i64 mt, .int .u64 di] 32 (0, 0)) := by rw [heap_get_alloc, if_pos rfl]
  have HBO := Lib.hid (fun (w' : World) (t : Tch [] (w.alloc (.cells #[.int .i64 lv, .int .i64 lt, .int .i64 tt, .int .i64 zt, .int .i64 bl, .int .i64 bt, .int .i64 mt, .int .u64 di] 32)) w') => t.obj hbo (by simp))
  have HROW : Hid (((w.alloc (.cells #[.int .i64 lv, .int .i64 lt, .int .i64 tt, .int .i64 zt, .int .i64 bl, .int .i64 bt, .int .i64 mt, .int .u64 di] 32)).alloc (.cells #[] 92)).ownsRow w.heap.size 92 1 (.slice (some ⟨w.heap.size + 1, 0, none⟩) 0 0) 0 []) := by
    have := World.ownsRow_made (base := w.heap.size) (e := 92) (size := 1) (w.alloc (.cells #[.int .i64 lv, .int .i64 lt, .int .i64 tt, .int .i64 zt, .int .i64 bl, .int .i64 bt, .int .i64 mt, .int .u64 di] 32)) #[] 0 T0.size (Nat.zero_le _) (by simp)
    have e : (w.alloc (.cells #[.int .i64 lv, .int .i64 lt, .int .i64 tt, .int .i64 zt, .int .i64 bl, .int .i64 bt, .int .i64 mt, .int .u64 di] 32)).heap.size = w.heap.size + 1 := by simp
    rw [e] at this; exact this
  have HT0 := Lib.hid T0
  clear h h30 hsh hwh hnew hbo T0
  go_enter Try.func31, Try.ntmps31
  go_wp2_with fail
  go_loopg [5, 14] LL.length (fun nn s5 s14 wr => ∃ (n : Nat) (sb : Option Addr) (sc : Nat), n ≤ LL.length ∧ nn = LL.length - n ∧ s5 = .slice sb n sc ∧ s14 = .int .i64 n ∧ Hid (∃ qs, OutM w wr LL n sb sc qs ∧ wr.heap[w.heap.size]? = some (.cells #[.int .i64 lv, .int .i64 lt, .int .i64 tt, .int .i64 zt, .int .i64 bl, .int .i64 bt, .int .i64 mt, .int .u64 di] 32 (0, 0))))
  case atStart =>
    exact ⟨0, _, _, Nat.zero_le _, rfl, rfl, rfl, [], ⟨⟨HROW.out, fun q hq => by simp at hq⟩, rfl, HT0.out.alloc _⟩, HBO.out _ ((Tch.refl _ _).alloc _)⟩
  case round =>
    obtain ⟨n, sb, sc, hn, rfl, rfl, rfl, HR⟩ := hrel
    rename World => w1
    by_cases hlt : n < LL.length
    · have hlt2 : (n : Int) < LL.length := by omega
      cases la with
      | none => have h0 := (HST.out.nil rfl).2; rw [h0] at hlt; exact absurd hlt (by simp)
      | some a =>
      have HT1 : Hid (Tch [] w w1) := by obtain ⟨qs, h1, -⟩ := HR.out; exact h1.t
      obtain ⟨hab, ta, tc, hc0, hts⟩ := HST.out.at' a rfl n hlt
      have hc : w1.cell? (a.add n) = some (.slice ta (LL.getD n []).length tc) := by rw [HT1.out.cell (by rw [add_block]; exact hab) (by simp)]; exact hc0
      clear hab hc0
      have hmem : LL.getD n [] ∈ LL := by simp [List.getD, hlt]
      have HL30 := Lib.hid (H30.out _ hmem)
      have HLS := Lib.hid (HSH.out _ hmem)
      have HLW := Lib.hid (HWH.out _ hmem)
      have HTS := Lib.hid hts
      have HN := Lib.hid hlt
      have h30 : ((LL.getD n []).length : Int) ≤ 30 := by have := HL30.out; omega
      have hrow0 := World.ownsRow_made (base := w1.heap.size) (e := 94) (size := 7) w1 #[] 0 (Nat.le_refl _) (Nat.zero_le _) (by simp)
      have HROW1 := Lib.hid hrow0
      generalize hts' : LL.getD n [] = ts at *
      have HTL := Lib.hid hts'
      clear hts' hts hlt hmem hrow0
      go_wp2_with fail
      go_loopg [8, 21] ts.length (fun nn s8 s21 wx => ∃ (i : Nat) (sa : Option Addr) (sc : Nat), i ≤ ts.length ∧ nn = ts.length - i ∧ s8 = .slice sa i sc ∧ s21 = .int .i64 i ∧ Hid (∃ ps, InM w1 wx ts i sa sc ps))
      case atStart => exact ⟨0, _, _, Nat.zero_le _, rfl, rfl, rfl, [], ⟨HROW1.out, rfl, fun p hp => by simp at hp, fun p hp => by simp at hp, (Tch.refl _ _).alloc _⟩⟩
      case round =>
        obtain ⟨i, sa, sd, hi, rfl, rfl, rfl, HI⟩ := hrel
        rename World => wx
        by_cases hlt : i < ts.length
        · have hlt2 : (i : Int) < ts.length := by omega
          cases ta with
          | none => have h0 := (HTS.out.nil rfl).2; rw [h0] at hlt; exact absurd hlt (by simp)
          | some b =>
          obtain ⟨ps, hI⟩ := HI.out
          obtain ⟨a1, c1, a2, c2, hcc⟩ := (HTS.out.tch (HT1.out.trans hI.t)).at' b rfl i hlt
          have hmem : ts.getD i default ∈ ts := by simp [List.getD, hlt]
          have hok := HTS.out.ok _ hmem
          have hsh := HLS.out _ hmem
          have hwh := HLW.out _ hmem
          have HST2 := Lib.hid (fun (w2 w3 : World) (g1 g2 g' c' : Nat) (t2 : Tch [] wx w2) (q1 : KeyRow w2 (ts.getD i default).k1 g1) (q2 : KeyRow w2 (ts.getD i default).k2 g2) (t3 : Tch (Value.slice sa i sd).ownBlock.toList w2 w3) (ho : w3.ownsRow w1.heap.size 94 7 (.slice (some ⟨g', 0, none⟩) (i + 1) c') (i + 1) (ps.flatMap ptL ++ ptL (ts.getD i default, g1, g2))) => hI.step hlt t2 q1 q2 t3 ho)
          have HLT := Lib.hid hlt
          have hi30 : i ≤ 100000000 := by omega
          clear hmem hlt HI
          generalize ts.getD i default = p at *
          obtain ⟨num, t1, ⟨l1, v1⟩, t2, ⟨l2, v2⟩, bytes, ver, stale, age⟩ := p
          obtain ⟨rfl, rfl⟩ : t1 = true ∧ t2 = true := hwh
          obtain ⟨⟨x0, x1, x2, x3, x4, x5, x6⟩, x7, x8, x9, x10⟩ := hcc.all
          have hbx : (wx.alloc (.cells (tbA num true a1 l1.length c1 v1 true a2 l2.length c2 v2 bytes ver stale age) 44)).heap[wx.heap.size]? = some (.cells (tbA num true a1 l1.length c1 v1 true a2 l2.length c2 v2 bytes ver stale age) 44 (0, 0)) := by rw [heap_get_alloc, if_pos rfl]
          have tw : Tch [] wx (wx.alloc (.cells (tbA num true a1 l1.length c1 v1 true a2 l2.length c2 v2 bytes ver stale age) 44)) := (Tch.refl [] wx).alloc _
          generalize hW : wx.alloc (.cells (tbA num true a1 l1.length c1 v1 true a2 l2.length c2 v2 bytes ver stale age) 44) = W at *
          have HCL := Lib.hid (fun (w' : World) (t : Tch [] W w') => tb_cells (t.obj hbx (by simp)))
          have HBX := Lib.hid (fun (w' : World) (t : Tch [] W w') => t.obj hbx (by simp))
          have HB1 := Lib.hid (fun (w' : World) (t : Tch [] W w') => bytesOf_any ⟨l1, v1⟩ a1 c1 w' hsh.1 hok.v1 (hcc.by1.tch (tw.trans t)))
          have HB2 := Lib.hid (fun (w' : World) (t : Tch [] W w') => bytesOf_any ⟨l2, v2⟩ a2 c2 w' hsh.2 hok.v2 (hcc.by2.tch (tw.trans t)))
          have HW := Lib.hid hW
          have HTW := Lib.hid tw
          have HOWN := Lib.hid hI.own
          have HIT := Lib.hid hI.t
          obtain ⟨i0, hinf, hz0, hz1, hz2⟩ := info_parts Try.infoPt
          clear hcc hbx tw hW hI hok hsh
          go_upto_region 9 with fail
          rw [HW.out]
          clear x0 x1 x2 x3 x4 x5 x6 x7 x8 x9 x10
          obtain ⟨⟨x0, x1, x2, x3, x4, x5, x6⟩, x7, x8, x9, x10⟩ := HCL.out W (Tch.refl _ _)
          go_wp2_with fail
          go_region_held3 (fun w' => w'.cell? ⟨wx.heap.size, 0, none⟩ = some (.int .u64 num) ∧ w'.cell? ⟨wx.heap.size, 1, none⟩ = some (.bool true) ∧ w'.cell? ⟨wx.heap.size, 2, none⟩ = some (.slice a1 l1.length c1) ∧ w'.cell? ⟨wx.heap.size, 3, none⟩ = some (.int .u64 v1) ∧ w'.cell? ⟨wx.heap.size, 4, none⟩ = some (.bool true) ∧ w'.cell? ⟨wx.heap.size, 5, none⟩ = some (.slice a2 l2.length c2) ∧ w'.cell? ⟨wx.heap.size, 6, none⟩ = some (.int .u64 v2) ∧ w'.cell? ⟨wx.heap.size, 7, none⟩ = some (.int .i64 bytes) ∧ w'.cell? ⟨wx.heap.size, 8, none⟩ = some (.int .u64 ver) ∧ w'.cell? ⟨wx.heap.size, 9, none⟩ = some (.int .u32 stale) ∧ w'.cell? ⟨wx.heap.size, 10, none⟩ = some (.int .i64 age)) (go_keep)
            (first
              | (go_at_call 29; (with_reducible refine (HB1.out _ ?_).mono ?_); (repeat (first | exact Tch.refl _ _ | exact Hid.out (by assumption) | refine Tch.drew ?_ | refine Tch.alloc ?_ _)); rintro e w5 hko
                 obtain ⟨g1, rfl, q1, q3⟩ := hko.row
                 have T5 : Tch [] W w5 := Tch.trans (by (repeat (first | exact Tch.refl _ _ | exact Hid.out (by assumption) | refine Tch.drew ?_ | refine Tch.alloc ?_ _))) q3
                 have R1 := Lib.hid q1
                 clear x0 x1 x2 x3 x4 x5 x6 x7 x8 x9 x10
                 obtain ⟨⟨x0, x1, x2, x3, x4, x5, x6⟩, x7, x8, x9, x10⟩ := HCL.out w5 T5
                 have HT5 := Lib.hid T5
                 clear q1 q3 T5 hko)
              | (go_at_call 29; (with_reducible refine (HB2.out _ ?_).mono ?_); (repeat (first | exact Tch.refl _ _ | exact Hid.out (by assumption) | refine Tch.drew ?_ | refine Tch.alloc ?_ _)); rintro e w6 hko
                 obtain ⟨g2, rfl, q1, q3⟩ := hko.row
                 have T6 : Tch [] W w6 := Tch.trans (by (repeat (first | exact Tch.refl _ _ | exact Hid.out (by assumption) | refine Tch.drew ?_ | refine Tch.alloc ?_ _))) q3
                 have D6 : Hid (Tch [] w5 w6) := Tch.trans (by (repeat (first | exact Tch.refl _ _ | exact Hid.out (by assumption) | refine Tch.drew ?_ | refine Tch.alloc ?_ _))) q3
                 have R2 := Lib.hid q1
                 clear x0 x1 x2 x3 x4 x5 x6 x7 x8 x9 x10
                 obtain ⟨⟨x0, x1, x2, x3, x4, x5, x6⟩, x7, x8, x9, x10⟩ := HCL.out w6 T6
                 have HT6 := Lib.hid T6
                 have HX6 : Hid (Tch [] wx w6) := HTW.out.trans T6
                 clear q1 q3 T6 hko)
              | (refine step_app rfl (.tmp 25) (.tmp 43) rfl Try.underlying92 hinf hz0 hz1 hz2 rfl (by decide) (by decide) w1.heap.size (.slice sa i sd) i (ps.flatMap ptL) (ptL (⟨num, true, ⟨l1, v1⟩, true, ⟨l2, v2⟩, bytes, ver, stale, age⟩, g1, g2)).toArray w6.heap.size (by simp [Act.eval]) (by simp [Act.eval]) hi30 rfl (ptL_one _) (by refine Tch.own (S := []) ?_ HOWN.out (by simp); (repeat (first | exact Tch.refl _ _ | exact Hid.out (by assumption) | refine Tch.drew ?_ | refine Tch.alloc ?_ _))) (by exact heap_alloc_new _ _) (by refine (Tch.size (S := []) (w := w1) ?_); refine HIT.out.trans ?_; (repeat (first | exact Tch.refl _ _ | exact Hid.out (by assumption) | refine Tch.drew ?_ | refine Tch.alloc ?_ _))) ?_
                 intro g' c' w7 ho t7 hl
                 have HS := Lib.hid (HST2.out _ w7 g1 g2 g' c' (by (repeat (first | exact Tch.refl _ _ | exact Hid.out (by assumption) | refine Tch.drew ?_ | refine Tch.alloc ?_ _))) (by refine KeyRow.tch (w := w5) R1.out ?_; (repeat (first | exact Tch.refl _ _ | exact Hid.out (by assumption) | refine Tch.drew ?_ | refine Tch.alloc ?_ _))) (by refine KeyRow.tch (w := w6) R2.out ?_; (repeat (first | exact Tch.refl _ _ | exact Hid.out (by assumption) | refine Tch.drew ?_ | refine Tch.alloc ?_ _))) t7 ho)
                 have hb7 := obj_keep (HBX.out _ (by (repeat (first | exact Tch.refl _ _ | exact Hid.out (by assumption) | refine Tch.drew ?_ | refine Tch.alloc ?_ _)))) t7 (Tch.own (S := []) (by (repeat (first | exact Tch.refl _ _ | exact Hid.out (by assumption) | refine Tch.drew ?_ | refine Tch.alloc ?_ _))) HOWN.out (by simp)) (by decide)
                 clear ho t7 hl x0 x1 x2 x3 x4 x5 x6 x7 x8 x9 x10
                 obtain ⟨⟨x0, x1, x2, x3, x4, x5, x6⟩, x7, x8, x9, x10⟩ := tb_cells hb7
                 clear hb7))
          all_goals (go_wp2_with fail; go_roundg (ts.length - (i + 1)))
          all_goals first
            | exact ⟨i + 1, _, _, by have := HLT.out; omega, rfl, rfl, by go_num, _, InM.tch HS.out (by (repeat (first | exact Tch.refl _ _ | exact Hid.out (by assumption) | refine Tch.drew ?_ | refine Tch.alloc ?_ _)))⟩
            | (have := HLT.out; omega)
        · obtain rfl : i = ts.length := by omega
          obtain ⟨ps, hI⟩ := HI.out
          obtain ⟨qs, hO, hbo⟩ := HR.out
          have hpm : ps.map (·.1) = ts := by rw [hI.fst, List.take_length]
          have hpl : ps.length = ts.length := by rw [← hpm, List.length_map]
          have hpt : PtRow wx ps sa ps.length sd := ⟨by rw [hpl]; exact ownsRow_base hI.own, rfl, hI.k1, hI.k2⟩
          have HOS := Lib.hid (fun (w3 : World) (g' c' : Nat) (t3 : Tch (Value.slice sb n sc).ownBlock.toList wx w3) (ho : w3.ownsRow w.heap.size 92 1 (.slice (some ⟨g', 0, none⟩) (n + 1) c') (n + 1) (qs.map (fun q => .slice q.2.1 q.1.length q.2.2) ++ [.slice sa ps.length sd])) =>
            (⟨hO.step HN.out hI.t hpt (by rw [hpm, HTL.out]) t3 ho, obj_keep (hI.t.obj hbo (by simp)) t3 (hI.t.own hO.pl.row (by simp)) (by decide)⟩ : _ ∧ _))
          obtain ⟨i0, hinf, hz0, hz1, hz2⟩ := info_parts Try.infoPts
          have hn8 : n ≤ 100000000 := by omega
          have HA := Lib.hid (own_app (ty := 91) Try.underlying91 hinf hz0 hz1 hz2 rfl (by decide) (by decide) #[.slice sa ts.length sd] (⟨hO.t.trans hI.t, hI.t.own hO.pl.row (by simp)⟩ : Own w wx _ _ _ _ _) hn8 rfl (by simp [Value.oneCell']))
          rw [hpl] at HOS
          clear hI hO hbo hpm hpl hpt hinf hz0 hz1 hz2 HI HR
          go_wp2_with (at_builtin; refine wpList_append_run rfl (.tmp 46) (.tmp 48) 91 rfl (.slice sb n sc) (.slice (some ⟨wx.heap.size, 0, none⟩) 1 1) (by simp [Act.eval]) (by simp [Act.eval]) _ HA.out ?_; rintro vv w7 ⟨g7, c7, rfl, n1, n2, n3, n4, n5⟩; have HS := Lib.hid (HOS.out _ _ _ n4 n1.row); clear n1 n2 n3 n4 n5)
          go_roundg (LL.length - (n + 1))
          case rel => exact ⟨n + 1, _, _, by have := HN.out; omega, rfl, rfl, by go_num, _, HS.out.1, HS.out.2⟩
          case measure => have := HN.out; omega
    · obtain rfl : n = LL.length := by omega
      obtain ⟨qs, hO, hbo⟩ := HR.out
      have c0 : w1.cell? ⟨w.heap.size, 0, none⟩ = some (.int .i64 lv) := by rw [cell_of_row w1 _ _ _ 32 (0, 0) hbo]; rfl
      have c1 : w1.cell? ⟨w.heap.size, 1, none⟩ = some (.int .i64 lt) := by rw [cell_of_row w1 _ _ _ 32 (0, 0) hbo]; rfl
      have c2 : w1.cell? ⟨w.heap.size, 2, none⟩ = some (.int .i64 tt) := by rw [cell_of_row w1 _ _ _ 32 (0, 0) hbo]; rfl
      have c3 : w1.cell? ⟨w.heap.size, 3, none⟩ = some (.int .i64 zt) := by rw [cell_of_row w1 _ _ _ 32 (0, 0) hbo]; rfl
      have c4 : w1.cell? ⟨w.heap.size, 4, none⟩ = some (.int .i64 bl) := by rw [cell_of_row w1 _ _ _ 32 (0, 0) hbo]; rfl
      have c5 : w1.cell? ⟨w.heap.size, 5, none⟩ = some (.int .i64 bt) := by rw [cell_of_row w1 _ _ _ 32 (0, 0) hbo]; rfl
      have c6 : w1.cell? ⟨w.heap.size, 6, none⟩ = some (.int .i64 mt) := by rw [cell_of_row w1 _ _ _ 32 (0, 0) hbo]; rfl
      have c7 : w1.cell? ⟨w.heap.size, 7, none⟩ = some (.int .u64 di) := by rw [cell_of_row w1 _ _ _ 32 (0, 0) hbo]; rfl
      have HNW := Lib.hid (fun (w' : World) (t : Tch [] w1 w') => HNEW.out qs sb LL.length sc w' (hO.t.trans t) (by rw [hO.eq, List.take_length]) rfl ⟨ownsRow_base (t.own hO.pl.row (by simp)), fun q hq => (hO.pl.all q hq).tch t⟩)
      have HTF := Lib.hid hO.t
      clear hO hbo HR hlt hn HST
      go_wp2_with (first
        | (go_at_call 45; refine (optionsOf_any _ _ _ _ _ _ _ _ _).mono ?_; rintro e w5 ⟨rfl, t5⟩; have HT5 := Lib.hid t5; clear t5)
        | (go_at_call 44; refine (HNW.out _ HT5.out).mono ?_; rintro e w6 ⟨v, rfl, h6⟩; have H6 := Lib.hid h6; clear h6))
      go_ret
      exact ⟨_, _, HTF.out.trans HT5.out, rfl, H6.out⟩

end Go.Proofs.Ytdofgamahjmohaa
