/- spec.InOrder. -/
import Derived.Test.YtdofgamahjmohaaLvG
import Derived.Test.YtdofgamahjmohaaOwn
import Derived.BigQuiet
namespace Go.Proofs.Ytdofgamahjmohaa
open Go.RowKit
set_option maxRecDepth 100000

theorem TbCells.all {w : World} {b : Addr} {num : Int} {t1 : Bool} {l1 : List Int} {v1 : Int} {t2 : Bool} {l2 : List Int} {v2 bytes ver stale age : Int} {a1 a2 : Option Addr} {c1 c2 : Nat} (h : TbCells w b ⟨num, t1, ⟨l1, v1⟩, t2, ⟨l2, v2⟩, bytes, ver, stale, age⟩ a1 c1 a2 c2) :
    (w.cell? b = some (.int .u64 num) ∧ w.cell? ⟨b.block, b.off + 1, none⟩ = some (.bool t1) ∧ w.cell? ⟨b.block, b.off + 2, none⟩ = some (.slice a1 l1.length c1) ∧ w.cell? ⟨b.block, b.off + 3, none⟩ = some (.int .u64 v1) ∧
     w.cell? ⟨b.block, b.off + 4, none⟩ = some (.bool t2) ∧ w.cell? ⟨b.block, b.off + 5, none⟩ = some (.slice a2 l2.length c2) ∧ w.cell? ⟨b.block, b.off + 6, none⟩ = some (.int .u64 v2)) ∧
    (w.cell? ⟨b.block, b.off + 7, none⟩ = some (.int .i64 bytes) ∧ w.cell? ⟨b.block, b.off + 8, none⟩ = some (.int .u64 ver) ∧ w.cell? ⟨b.block, b.off + 9, none⟩ = some (.int .u32 stale) ∧ w.cell? ⟨b.block, b.off + 10, none⟩ = some (.int .i64 age)) :=
  ⟨⟨h.x0, h.x1, h.x2, h.x3, h.x4, h.x5, h.x6⟩, h.x7, h.x8, h.x9, h.x10⟩

theorem dq_join {w w' : World} {n : Nat} (h : ∃ q, w' = (w.drewN n).drewN q) : ∃ q, w' = w.drewN q := by
  obtain ⟨q, rfl⟩ := h
  exact ⟨n + q, World.drewN_drewN _ _ _⟩

theorem Try.infoU64 : (Try.prog.info? 23).map (fun i => (i.zero, i.size, i.bytes)) = some (some (.int .u64 0), 1, 8) := by kernel_rfl

/-- What a table asks of its place in a level. -/
def OrdAt (z : Bool) (ts : List Tb) (i : Nat) : Prop :=
  isR (ts.getD i default).t1 (ts.getD i default).t2 (ts.getD i default).k1 (ts.getD i default).k2 = true ∧
  (0 < i → if z then (ts.getD (i - 1) default).num < (ts.getD i default).num else cmpI (ts.getD (i - 1) default).k2.key (ts.getD i default).k1.key < 0)
def nums (LL : List (List Tb)) : List Int := LL.flatten.map Tb.num
/-- Levels in order, whatever their number. -/
structure Ordered (LL : List (List Tb)) (n : Nat) : Prop where
  ord : ∀ m, m < n → ∀ i, i < (LL.getD m []).length → OrdAt (decide (m = 0)) (LL.getD m []) i
  one : (nums (LL.take n)).Nodup

theorem nums_take {LL : List (List Tb)} {n : Nat} (h : n < LL.length) : nums (LL.take (n + 1)) = nums (LL.take n) ++ (LL.getD n []).map Tb.num := by
  unfold nums
  rw [take_getD LL [] h, List.flatten_append, List.map_append]
  simp

theorem nums_len : ∀ (LL : List (List Tb)) (b : Nat), (∀ ts ∈ LL, ts.length ≤ b) → (nums LL).length ≤ LL.length * b
  | [], _, _ => by simp [nums]
  | ts :: LL, b, h => by
    have := nums_len LL b (fun t ht => h t (List.mem_cons_of_mem _ ht))
    have h1 := h ts (by simp)
    have e : nums (ts :: LL) = ts.map Tb.num ++ nums LL := by simp [nums]
    rw [e, List.length_append, List.length_map, List.length_cons, Nat.add_mul]
    omega

/-- The numbers so far: of the levels ahead, and of a level's first tables. -/
def numsAt (LL : List (List Tb)) (n i : Nat) : List Int := nums (LL.take n) ++ ((LL.getD n []).take i).map Tb.num

theorem numsAt_succ {LL : List (List Tb)} {n i : Nat} (h : i < (LL.getD n []).length) : numsAt LL n (i + 1) = numsAt LL n i ++ [((LL.getD n []).getD i default).num] := by
  unfold numsAt
  rw [take_getD _ default h, List.map_append, List.append_assoc]
  rfl

structure InS (w wr : World) (LL : List (List Tb)) (n i : Nat) (sa : Option Addr) (sc : Nat) : Prop where
  own : Own w wr 23 1 (.slice sa (numsAt LL n i).length sc) (numsAt LL n i).length ((numsAt LL n i).map (Value.int .u64))
  ord : Ordered LL n
  one : (numsAt LL n i).Nodup
  here : ∀ j, j < i → OrdAt (decide (n = 0)) (LL.getD n []) j

set_option maxHeartbeats 2000000 in
theorem inOrder_any (LL : List (List Tb)) (la : Option Addr) (c : Nat) (w : World) (h : LvAt w LL la c) (h7 : LL.length ≤ 7) (h30 : ∀ ts ∈ LL, ts.length ≤ 30) (hsh : ∀ ts ∈ LL, ∀ t ∈ ts, t.short) :
    Calls Try.prog 30 #[.slice la LL.length c] w (Guard w (Ordered LL LL.length)) := by
  have HST := Lib.hid h
  have H30 := Lib.hid h30
  have HSH := Lib.hid hsh
  have h7i : (LL.length : Int) ≤ 7 := by omega
  have H7 := Lib.hid h7
  have HO0 := Lib.hid (Own.new (Tch.refl [] w) 23 1)
  clear h h30 hsh h7
  go_enter Try.func30, Try.ntmps30
  go_wp2_with fail
  go_loopg [3, 13] LL.length (fun nn s3 s13 wr => ∃ (n : Nat) (sa : Option Addr) (sc : Nat), n ≤ LL.length ∧ nn = LL.length - n ∧ s3 = .slice sa (numsAt LL n 0).length sc ∧ s13 = .int .i64 n ∧ Hid (InS w wr LL n 0 sa sc))
  case atStart =>
    refine ⟨0, _, _, Nat.zero_le _, rfl, rfl, rfl, ⟨HO0.out, ⟨fun m hm => absurd hm (Nat.not_lt_zero m), by simp [nums]⟩, by simp [numsAt, nums], fun j hj => absurd hj (Nat.not_lt_zero j)⟩⟩
  case round =>
    obtain ⟨n, sa, sc, hn, rfl, rfl, rfl, HR⟩ := hrel
    by_cases hlt : n < LL.length
    · have hlt2 : (n : Int) < LL.length := by omega
      cases la with
      | none => have h0 := (HST.out.nil rfl).2; rw [h0] at hlt; exact absurd hlt (by simp)
      | some a =>
      obtain ⟨hab, ta, tc, hc0, hts⟩ := HST.out.at' a rfl n hlt
      have hc : wr.cell? (a.add n) = some (.slice ta (LL.getD n []).length tc) := by rw [HR.out.own.t.cell (by rw [add_block]; exact hab) (by simp)]; exact hc0
      clear hab hc0
      have hmem : LL.getD n [] ∈ LL := by simp [List.getD, hlt]
      have HL30 := Lib.hid (H30.out _ hmem)
      have HLS := Lib.hid (HSH.out _ hmem)
      have HTS := Lib.hid hts
      have HN := Lib.hid hlt
      have h30 : ((LL.getD n []).length : Int) ≤ 30 := by have := HL30.out; omega
      have HNL : Hid (∀ i, i ≤ (LL.getD n []).length → (numsAt LL n i).length ≤ 240) := Lib.hid (fun i hi => by
        have h1 := nums_len (LL.take n) 30 (fun ts ht => H30.out ts (List.mem_of_mem_take ht))
        have h2 : (LL.take n).length ≤ 7 := by rw [List.length_take]; omega
        have h3 := Nat.mul_le_mul_right 30 h2
        have h4 := HL30.out
        unfold numsAt
        rw [List.length_append, List.length_map, List.length_take]
        omega)
      generalize hts' : LL.getD n [] = ts at *
      have HTL := Lib.hid hts'
      clear hts' hts hlt hmem
      go_wp2_with fail
      go_loopg [3, 20] ts.length (fun nn s3 s20 wx => ∃ (i : Nat) (sa : Option Addr) (sc : Nat), i ≤ ts.length ∧ nn = ts.length - i ∧ s3 = .slice sa (numsAt LL n i).length sc ∧ s20 = .int .i64 i ∧ Hid (InS w wx LL n i sa sc ∧ Tch [] w wx))
      case atStart => exact ⟨0, sa, sc, Nat.zero_le _, rfl, rfl, rfl, HR.out, HR.out.own.t⟩
      case round =>
        obtain ⟨i, sa, sc, hi, rfl, rfl, rfl, HI⟩ := hrel
        by_cases hlt : i < ts.length
        · have hlt2 : (i : Int) < ts.length := by omega
          cases ta with
          | none => have h0 := (HTS.out.nil rfl).2; rw [h0] at hlt; exact absurd hlt (by simp)
          | some b =>
          obtain ⟨a1, c1, a2, c2, hc⟩ := (HTS.out.tch HI.out.2).at' b rfl i hlt
          have hsh : (ts.getD i default).short := HLS.out _ (by simp [List.getD, hlt])
          have HSX : Hid (isR (ts.getD i default).t1 (ts.getD i default).t2 (ts.getD i default).k1 (ts.getD i default).k2 = true → (0 < i → if decide (n = 0) then (ts.getD (i - 1) default).num < (ts.getD i default).num else cmpI (ts.getD (i - 1) default).k2.key (ts.getD i default).k1.key < 0) → OrdAt (decide (n = 0)) ts i) := Lib.hid (fun hr hh => ⟨hr, hh⟩)
          have HNU := Lib.hid (numsAt_succ (LL := LL) (n := n) (i := i) (by rw [HTL.out]; exact hlt))
          rw [HTL.out] at HNU
          generalize hp : ts.getD i default = p at *
          obtain ⟨num, t1, ⟨l1, v1⟩, t2, ⟨l2, v2⟩, bytes, ver, stale, age⟩ := p
          obtain ⟨hs1, hs2⟩ := hsh
          have hs1 : l1.length ≤ 2147483647 := hs1
          have hs2 : l2.length ≤ 2147483647 := hs2
          have hb1 : By wr l1 a1 c1 := hc.by1
          have hb2 : By wr l2 a2 c2 := hc.by2
          obtain ⟨⟨x0, x1, x2, x3, x4, x5, x6⟩, x7, x8, x9, x10⟩ := hc.all
          have HB1 := Lib.hid hb1
          have hTW : Tch [] wr (wr.alloc (.cells (tbA num t1 a1 l1.length c1 v1 t2 a2 l2.length c2 v2 bytes ver stale age) 44)) := (Tch.refl [] wr).alloc _
          have hbx : (wr.alloc (.cells (tbA num t1 a1 l1.length c1 v1 t2 a2 l2.length c2 v2 bytes ver stale age) 44)).heap[wr.heap.size]? = some (.cells (tbA num t1 a1 l1.length c1 v1 t2 a2 l2.length c2 v2 bytes ver stale age) 44 (0, 0)) := by rw [heap_get_alloc, if_pos rfl]
          have HC := Lib.hid (fun (w' : World) (t : Tch [] (wr.alloc (.cells (tbA num t1 a1 l1.length c1 v1 t2 a2 l2.length c2 v2 bytes ver stale age) 44)) w') => (tb_cells (t.obj hbx (by simp))).1)
          have HCO := Lib.hid (fun (w' : World) (t : Tch [] wr w') => spec_order_any t1 t2 ⟨l1, v1⟩ ⟨l2, v2⟩ a1 a2 c1 c2 w' hs1 hs2 (hb1.tch t) (hb2.tch t))
          have HTW := Lib.hid hTW
          have HI1 := Lib.hid (fun w' => spec_isBound_any t1 a1 l1.length c1 v1 w')
          have HI2 := Lib.hid (fun w' => spec_isBound_any t2 a2 l2.length c2 v2 w')
          have HISR := Lib.hid (show isR t1 t2 ⟨l1, v1⟩ ⟨l2, v2⟩ = (isB t1 l1.length && isB t2 l2.length && decide (kcmp ⟨l1, v1⟩ ⟨l2, v2⟩ ≤ 0)) from rfl)
          generalize isB t1 l1.length = i1 at *
          generalize isB t2 l2.length = i2 at *
          generalize kcmp ⟨l1, v1⟩ ⟨l2, v2⟩ = x at *
          have HLT := Lib.hid hlt
          have HP := Lib.hid hp
          clear hp hc hb1 hb2 hTW hbx hlt hs2
          go_wp2_with fail
          refine (HI1.out _).mono ?_
          rintro e w1 ⟨rfl, t⟩
          clear x0 x1 x2 x3 x4 x5 x6 x7 x8 x9 x10
          obtain ⟨x0, x1, x2, x3, x4, x5, x6⟩ := HC.out w1 t
          have HT1 := Lib.hid t
          clear t
          cases i1 with
          | false =>
            go_wp2_with fail
            go_ret
            exact ⟨false, rfl, by simp, HI.out.2.trans (HTW.out.trans HT1.out)⟩
          | true =>
          go_wp2_with fail
          refine (HI2.out _).mono ?_
          rintro e w2 ⟨rfl, t⟩
          have HT2 := Lib.hid (HT1.out.trans t)
          clear x0 x1 x2 x3 x4 x5 x6 t
          obtain ⟨x0, x1, x2, x3, x4, x5, x6⟩ := HC.out w2 HT2.out
          cases i2 with
          | false =>
            go_wp2_with fail
            go_ret
            exact ⟨false, rfl, by simp, HI.out.2.trans (HTW.out.trans HT2.out)⟩
          | true =>
          go_wp2_with fail
          refine (HCO.out _ (HTW.out.trans HT2.out)).mono ?_
          rintro e w3 ⟨rfl, t⟩
          have HT3 := Lib.hid (HT2.out.trans t)
          clear x0 x1 x2 x3 x4 x5 x6 t
          obtain ⟨x0, x1, x2, x3, x4, x5, x6⟩ := HC.out w3 HT3.out
          by_cases hx : 0 < x
          · have b1 : decide (0 < x) = true := by simpa using hx
            clear hx
            go_wp2_with fail
            go_ret
            exact ⟨false, rfl, by simp, HI.out.2.trans (HTW.out.trans HT3.out)⟩
          have HISR2 := Lib.hid (show isR t1 t2 ⟨l1, v1⟩ ⟨l2, v2⟩ = true by rw [HISR.out]; simp; omega)
          have b1 : decide (0 < x) = false := by simpa using hx
          clear hx
          go_upto_region 10 with fail
          have HPV := Lib.hid (HTS.out.tch (HI.out.2.trans (HTW.out.trans HT3.out)))
          have HB3 := Lib.hid (HB1.out.tch (HTW.out.trans HT3.out))
          go_cut [20, 81] from 20 to 98 (fun s20 s81 wx => ∃ bb : Bool, s20 = .int .i64 i ∧ s81 = .bool bb ∧ Hid ((bb = false → (0 < i → if decide (n = 0) then (ts.getD (i - 1) default).num < num else cmpI (ts.getD (i - 1) default).k2.key l1 < 0)) ∧ Tch [] w3 wx))
          case first =>
            by_cases hi0 : i = 0
            · subst hi0
              by_cases hn0 : n = 0
              · subst hn0
                go_wp2_with fail
                go_quiet (fail)
                all_goals (try go_wp2_with fail)
                go_meet
                exact ⟨false, rfl, rfl, fun _ h => absurd h (Nat.lt_irrefl 0), (Tch.refl _ _).drewN _⟩
              · have hn1 : (0 : Int) < n := by omega
                have hn2 : decide ((n : Int) = 0) = false := by simpa using hn0
                have hn3 : ((n : Int) == 0) = false := by simpa using hn0
                have hn5 : 0 < n := by omega
                have hn6 : decide (n = 0) = false := by simpa using hn0
                have hn7 : (n == 0) = false := by simpa using hn0
                clear hn0
                go_wp2_with fail
                go_quiet (fail)
                all_goals (try go_wp2_with fail)
                go_meet
                exact ⟨false, rfl, rfl, fun _ h => absurd h (Nat.lt_irrefl 0), (Tch.refl _ _).drewN _⟩
            · obtain ⟨m, rfl⟩ : ∃ m, i = m + 1 := ⟨i - 1, by omega⟩
              clear hi0
              obtain ⟨pa1, pc1, pa2, pc2, hpc⟩ := HPV.out.at' b rfl m (by have := HLT.out; omega)
              have hpsh : (ts.getD m default).short := HLS.out _ (by have := HLT.out; simp [List.getD, show m < ts.length by omega])
              generalize hpq : ts.getD m default = pq at *
              have HPQ := Lib.hid hpq
              clear hpq
              obtain ⟨pnum, pt1, ⟨pl1, pv1⟩, pt2, ⟨pl2, pv2⟩, pbytes, pver, pstale, page⟩ := pq
              obtain ⟨⟨y0, -, -, -, -, y5, -⟩, -⟩ := hpc.all
              have HCM := Lib.hid (fun w' (t : Tch [] w3 w') => spec_Compare_q pl2 l1 pa2 a1 pc2 c1 w' hpsh.2 hs1 (hpc.by2.tch t) (HB3.out.tch t))
              have hm0 : (0 : Int) < (m : Int) + 1 := by omega
              have hml : (m : Int) < ts.length := by have := HLT.out; omega
              clear hpc hpsh
              by_cases hn0 : n = 0
              · subst hn0
                by_cases hx : num ≤ pnum
                · go_quiet (fail)
                  all_goals (try go_wp2_with fail)
                  go_meet
                  exact ⟨true, rfl, rfl, fun h => by simp at h, (Tch.refl _ _).drewN _⟩
                · have hx2 : decide (num ≤ pnum) = false := by simpa using hx
                  have HX := Lib.hid (show pnum < num by omega)
                  clear hx
                  go_wp2_with fail
                  go_quiet (fail)
                  all_goals (try go_wp2_with fail)
                  go_meet
                  exact ⟨false, rfl, rfl, fun _ _ => (by show (ts.getD m default).num < num; rw [HPQ.out]; exact HX.out), (Tch.refl _ _).drewN _⟩
              · have hn1 : (0 : Int) < n := by omega
                have hn2 : decide ((n : Int) = 0) = false := by simpa using hn0
                have hn3 : ((n : Int) == 0) = false := by simpa using hn0
                have hn4 : decide (n = 0) = false := by simpa using hn0
                have hn5 : 0 < n := by omega
                have hn7 : (n == 0) = false := by simpa using hn0
                have HN4 := Lib.hid hn4
                clear hn0 hn4
                by_cases hx : 0 ≤ cmpI pl2 l1
                · generalize cmpI pl2 l1 = cx at *
                  go_wp2_with fail
                  go_quiet (first | (go_at_call 27; exact (HCM.out _ ((Tch.refl _ _).drewN _)).mono (fun e w' h => ⟨h.1, dq_join h.2⟩)))
                  all_goals (try go_wp2_with fail)
                  go_meet
                  exact ⟨true, rfl, rfl, fun h => by simp at h, (Tch.refl _ _).drewN _⟩
                · have hx2 : decide (0 ≤ cmpI pl2 l1) = false := by simpa using hx
                  have HX := Lib.hid (show cmpI pl2 l1 < 0 by omega)
                  clear hx
                  generalize cmpI pl2 l1 = cx at hx2 HCM
                  go_wp2_with fail
                  go_quiet (first | (go_at_call 27; exact (HCM.out _ ((Tch.refl _ _).drewN _)).mono (fun e w' h => ⟨h.1, dq_join h.2⟩)))
                  all_goals (try go_wp2_with fail)
                  go_meet
                  exact ⟨false, rfl, rfl, fun _ _ => (by rw [if_neg (by rw [HN4.out]; simp)]; show cmpI (ts.getD m default).k2.key l1 < 0; rw [HPQ.out]; exact HX.out), (Tch.refl _ _).drewN _⟩
          case rest =>
            obtain ⟨bb, rfl, rfl, HCU⟩ := hcut
            clear x0 x1 x2 x3 x4 x5 x6 b1
            cases bb with
            | true =>
              go_wp2_with fail
              go_ret
              exact ⟨false, rfl, by simp, HI.out.2.trans (HTW.out.trans (HT3.out.trans HCU.out.2))⟩
            | false =>
            have HCU2 := Lib.hid (HCU.out.1 rfl)
            have HTA := Lib.hid (show Tch [] w wc from HI.out.2.trans (HTW.out.trans (HT3.out.trans HCU.out.2)))
            have HCB := Lib.hid (fun w' (t : Tch [] wc w') => (HC.out w' (HT3.out.trans (HCU.out.2.trans t))).1)
            have HOW := Lib.hid (HI.out.1.own.tch (HTW.out.trans (HT3.out.trans HCU.out.2)))
            have hnl : ((numsAt LL n i).length : Int) ≤ 240 := by have := HNL.out i (Nat.le_of_lt HLT.out); omega
            generalize hal : numsAt LL n i = all at *
            have HAL := Lib.hid hal
            clear hal
            have c0 := HCB.out wc (Tch.refl _ _)
            go_wp2_with fail
            go_loopg [84] all.length (fun nn s84 wr => ∃ j : Nat, j ≤ all.length ∧ nn = all.length - j ∧ s84 = .int .i64 j ∧ Hid ((∀ q, q < j → all.getD q 0 ≠ num) ∧ Tch [] wc wr))
            case atStart => exact ⟨0, Nat.zero_le _, rfl, rfl, fun q hq => absurd hq (Nat.not_lt_zero q), Tch.refl _ _⟩
            case round =>
              obtain ⟨j, hj, rfl, rfl, HJ⟩ := hrel
              by_cases hlt : j < all.length
              · have hlt2 : (j : Int) < all.length := by omega
                obtain ⟨oa, oc, ov, -, onil, ohb⟩ := HOW.out.slice
                obtain ⟨rfl, -, rfl⟩ : sa = oa ∧ True ∧ sc = oc := by simpa using ov
                cases sa with
                | none => have := (onil rfl).2; omega
                | some ad =>
                have hcell := (own_cell (HOW.out.tch HJ.out.2).row (j := j) (u := .int .u64 (all.getD j 0)) (by simp [List.getD, List.getElem?_eq_getElem hlt])).2
                have c1' := HCB.out _ HJ.out.2
                clear ov onil ohb c0
                generalize hz : all.getD j 0 = z at *
                have HZ := Lib.hid hz
                clear hz
                by_cases he : z = num
                · subst he
                  go_wp2_with fail
                  go_ret
                  exact ⟨false, rfl, by simp, HTA.out.trans HJ.out.2⟩
                · have hb1 : decide (z = num) = false := by simpa using he
                  have hb2 : (z == num) = false := by simpa using he
                  have HNE := Lib.hid he
                  clear he
                  go_wp2_with fail
                  go_roundg (all.length - (j + 1))
                  case rel =>
                    refine ⟨j + 1, by omega, rfl, by go_num, fun q hq => ?_, HJ.out.2⟩
                    by_cases e : q = j
                    · rw [e, HZ.out]; exact HNE.out
                    · exact HJ.out.1 q (by omega)
                  case measure => omega
              · obtain rfl : j = all.length := by omega
                clear hlt c0
                have c0 := HCB.out _ HJ.out.2
                obtain ⟨i0, hinf, hz0, hz1, hz2⟩ := info_parts Try.infoU64
                have HA := Lib.hid (own_app (ty := 78) Try.underlying78 hinf hz0 hz1 hz2 rfl (by decide) (by decide) #[.int .u64 num] (HOW.out.tch HJ.out.2) (by omega) rfl (by simp [Value.oneCell']))
                have HLI := Lib.hid (show i < ts.length from HLT.out)
                clear hinf hz0 hz1 hz2
                go_wp2_with (at_builtin; refine wpList_append_run rfl (.tmp 93) (.tmp 96) 78 rfl (.slice sa all.length sc) (.slice (some ⟨wr.heap.size, 0, none⟩) 1 1) (by simp [Act.eval]) (by simp [Act.eval]) _ HA.out ?_; rintro vv w7 ⟨g7, c7, rfl, n1, n2, n3, n4, n5⟩; have HN1 := Lib.hid n1; clear n1 n2 n3 n4 n5)
                go_roundg (ts.length - (i + 1))
                case rel =>
                  have e1 : numsAt LL n (i + 1) = all ++ [num] := by rw [HNU.out]
                  have eo : OrdAt (decide (n = 0)) ts i := HSX.out HISR2.out HCU2.out
                  refine ⟨i + 1, some ⟨g7, 0, none⟩, c7, by have := HLI.out; omega, rfl, by rw [e1, List.length_append]; rfl, by go_num, ⟨by rw [e1, List.length_append, List.map_append]; exact HN1.out, HI.out.1.ord, ?_, fun q hq => ?_⟩, HN1.out.t⟩
                  · rw [e1]
                    refine List.nodup_append.2 ⟨by have := HI.out.1.one; rw [HAL.out] at this; exact this, by simp, ?_⟩
                    intro z hz y hy
                    obtain rfl := List.mem_singleton.1 hy
                    obtain ⟨q, hq, rfl⟩ := List.mem_iff_getElem.1 hz
                    have := HJ.out.1 q hq
                    simpa [List.getD, List.getElem?_eq_getElem hq] using this
                  · by_cases e : q = i
                    · rw [e, HTL.out]; exact eo
                    · exact HI.out.1.here q (by omega)
                case measure => have := HLI.out; omega
        · obtain rfl : i = ts.length := by omega
          go_wp2_with fail
          go_roundg (LL.length - (n + 1))
          case rel =>
            have ei : numsAt LL n ts.length = numsAt LL (n + 1) 0 := by
              have : numsAt LL n ts.length = nums (LL.take n) ++ (LL.getD n []).map Tb.num := by unfold numsAt; rw [← HTL.out, List.take_length]
              rw [this, ← nums_take HN.out]
              simp [numsAt]
            have hi := HI.out.1
            have e2 : numsAt LL (n + 1) 0 = nums (LL.take (n + 1)) := by simp [numsAt]
            refine ⟨n + 1, sa, sc, by have := HN.out; omega, rfl, by rw [ei], by go_num, ?_⟩
            refine ⟨by have := hi.own; rw [ei] at this; exact this, ⟨fun m hm => ?_, by rw [← e2, ← ei]; exact hi.one⟩, by rw [← ei]; exact hi.one, fun j hj => absurd hj (Nat.not_lt_zero j)⟩
            by_cases em : m = n
            · subst em
              rw [HTL.out]
              have := hi.here
              rw [HTL.out] at this
              exact this
            · exact hi.ord.ord m (by omega)
          case measure => omega
    · obtain rfl : n = LL.length := by omega
      clear hlt hn HST
      go_wp2_with fail
      go_ret
      exact ⟨true, rfl, fun _ => HR.out.ord, HR.out.own.t⟩

end Go.Proofs.Ytdofgamahjmohaa
