/- spec.RunTrie, walked. FnTrieRun, FnTrieNodes, walked. -/
import Derived.Test.YtcolffccbmpndaaGreatDoorTrSa
namespace Go.Proofs.YtcolffccbmpndaaGreatDoor
open Go.RowKit Go.Deep Go.Maps Go.WideMaps
set_option maxRecDepth 100000

/-- What spec.RunTrie tells. -/
def SpecEnd (w : World) (L : List StepD) (e : Ending) (w' : World) : Prop :=
  ∃ (oa : Option Addr) (oc : Nat) (outs : List (TTold × Value)), e = .returned (.slice oa L.length oc) ∧ Own w w' 33 4 (.slice oa L.length oc) L.length (outs.flatMap tolC) ∧ (∀ p ∈ outs, w'.ownsRow w.heap.size 26 1 p.2 p.1.ids.length (uV p.1.ids)) ∧ outs.map Prod.fst = runT [] L

theorem Tryz.infoHeld : (Tryz.prog.info? 67).map (fun i => (i.zero, i.size, i.bytes)) = some (some (.agg #[.slice none 0 0, .slice none 0 0, .int .u64 0]), 3, 56) := by kernel_rfl

set_option maxHeartbeats 8000000 in
theorem specRun_any (L : List StepD) (sa : Option Addr) (cz : Nat) (w : World) (hst : StepsAt w sa L) (hs : smallS L) (hok : ∀ i, i < L.length → stepOkF (L.getD i default)) :
    Calls Tryz.prog 21 #[.slice sa L.length cz] w (SpecEnd w L) := by
  have HLL := Lib.hid hs.1
  have HSS := Lib.hid hs.2
  have HST := Lib.hid hst
  have HOK := Lib.hid hok
  have hlI : (L.length : Int) ≤ 1000 := by have := hs.1; omega
  obtain ⟨i0, hinf, hz0, hz1, hz2⟩ := info_parts Tryz.infoTold
  have HAP := Lib.hid (fun (w0 wr : World) (v : Value) (n : Nat) (xs : List Value) (t : TTold) (vi : Value) (h1 : vi.oneCell' = true) (h : Own w0 wr 33 4 v n xs) (hn : n ≤ 100000000) => own_app (ty := 29) Tryz.underlying29 hinf hz0 hz1 hz2 rfl (by decide) (by decide) #[.bool t.ok, vi, .int .i64 t.many, .int .i64 t.nodes] h hn rfl (by intro x hx; simp only [List.mem_cons, List.not_mem_nil, or_false] at hx; rcases hx with rfl | rfl | rfl | rfl <;> first | rfl | exact h1))
  clear hinf hz0 hz1 hz2
  obtain ⟨i1, hinf, hz0, hz1, hz2⟩ := info_parts Tryz.infoHeld
  have HAH := Lib.hid (fun (w0 wr : World) (v : Value) (n : Nat) (xs : List Value) (x : HeldV) (h1 : x.hv.oneCell' = true) (h : Own w0 wr 67 3 v n xs) (hn : n ≤ 100000000) => own_app (ty := 65) Tryz.underlying65 hinf hz0 hz1 hz2 rfl (by decide) (by decide) #[.slice x.ba x.l.length x.bc, x.hv, .int .u64 x.id] h hn rfl (by intro y hy; simp only [List.mem_cons, List.not_mem_nil, or_false] at hy; rcases hy with rfl | rfl | rfl <;> first | rfl | exact h1))
  clear hinf hz0 hz1 hz2 hst hs hok
  have HM0 : Hid (MidS w ((w.alloc (.cells #[] 67)).alloc (.cells #[] 33)) L 0 (some ⟨w.heap.size, 0, none⟩) 0 [] (some ⟨w.heap.size + 1, 0, none⟩) 0 []) := Lib.hid (by
    have h1 := (Own.new (Tch.refl [] w) 67 3).tch ((Tch.refl [] _).alloc (.cells #[] 33))
    have h2 := Own.new ((Tch.refl [] w).alloc (.cells #[] 67)) 33 4
    refine ⟨h1, by simp, rfl, by simpa using h2, by simp, rfl⟩)
  go_enter Tryz.func21, Tryz.ntmps21
  go_wp2_with fail
  go_loopg [3, 4, 23] L.length (fun nn s3 s4 s23 wr => ∃ (k : Nat) (aa : Option Addr) (ac : Nat) (A : List HeldV) (oa : Option Addr) (oc : Nat) (outs : List (TTold × Value)), k ≤ L.length ∧ nn = L.length - k ∧ s3 = .slice aa A.length ac ∧ s4 = .slice oa k oc ∧ s23 = .int .i64 k ∧ Hid (MidS w wr L k aa ac A oa oc outs))
  case atStart => exact ⟨0, _, _, [], _, _, [], Nat.zero_le _, rfl, rfl, rfl, rfl, HM0.out⟩
  case round =>
    obtain ⟨k, aa, ac, A, oa, oc, outs, hk, rfl, rfl, rfl, rfl, HM⟩ := hrel
    rename World => wr
    by_cases hlt : k < L.length
    · obtain ⟨a, rfl, hsa⟩ := HST.out k hlt
      have hlt2 : (k : Int) < (L.length : Int) := by omega
      have HTW := Lib.hid HM.out.all.t
      obtain ⟨ba, bc, x0, x1, x2, x3, hby⟩ := (hsa.tch HTW.out).all
      have HBY := Lib.hid (fun w' (t : Tch [] wr w') => hby.tch t)
      have HB0 : Hid (By w (L.getD k default).bytes ba bc) := Lib.hid (by
        obtain ⟨ba', bc', y0, y1, y2, y3, hby'⟩ := hsa.all
        have e1 := (hsa.tch HTW.out)
        have y1' := cell_tch y1 HTW.out
        rw [x1] at y1'
        simp only [Option.some.injEq, Value.slice.injEq] at y1'
        obtain ⟨rfl, -, rfl⟩ := y1'
        exact hby')
      have HKT := Lib.hid (take_step L hlt)
      have HP := Lib.hid (HOK.out k hlt)
      have HSZ := Lib.hid (stand_size L (fun i hi => (okS_of ⟨HLL.out, HSS.out⟩ (fun i hi => (HOK.out i hi).1) _ (by rw [show L.getD i default = L[i] by simp [List.getD, List.getElem?_eq_getElem hi]]; exact List.getElem_mem hi)).1) k hk)
      have HLT := Lib.hid hlt
      have HBN := Lib.hid (HSS.out k hlt)
      have HOL := Lib.hid (HM.out.olen hk)
      have HAL : Hid (A.length ≤ 1000) := Lib.hid (by
        have h1 := congrArg List.length HM.out.st
        unfold standV at h1
        rw [List.length_map] at h1
        have := HSZ.out.1
        have := HLL.out
        omega)
      have haI : (A.length : Int) ≤ 1000 := by have := HAL.out; omega
      generalize hpe : L.getD k default = p at *
      have HPE := Lib.hid hpe
      obtain ⟨kd, bytes, holes, id⟩ := p
      simp only [] at x0 x1 x2 x3 HB0 HBN HBY
      clear hsa hby hlt hk hpe
      go_upto_region 8 with fail
      have HB3 := Lib.hid (base3 wr (.cells #[.int .i64 kd, .slice ba bytes.length bc, .string (bs holes), .int .u64 id] 28) (.cells #[.bool true, .slice none 0 0, .int .i64 0, .int .i64 0] 33) (.cells #[] 4))
      have HH0 : Hid (∀ h : ¬ (kd = 1 ∨ kd = 3), HoleS w wr _ ⟨kd, bytes, holes, id⟩ ba bc (some ⟨wr.heap.size + 1 + 1, 0, none⟩) 0 0 (fun _ => false)) := Lib.hid (fun h => HoleS.start HTW.out ⟨kd, bytes, holes, id⟩ ba bc h)
      clear x0 x1 x2 x3
      go_cut [36] from 29 to 36 (fun s36 wx => ∃ bb : Bool, s36 = .bool bb ∧ Hid ((bb = true → kd = 1 ∨ kd = 3) ∧ Base3 wr wx ⟨kd, bytes, holes, id⟩ ba bc ∧ (bb = false → HoleS w wr wx ⟨kd, bytes, holes, id⟩ ba bc (some ⟨wr.heap.size + 1 + 1, 0, none⟩) 0 0 (fun _ => false))))
      case first =>
        by_cases h13 : kd = 1 ∨ kd = 3
        · have HK13 := Lib.hid h13
          rcases h13 with rfl | rfl
          all_goals
            go_wp2_with fail
            go_meet
            exact ⟨true, rfl, fun _ => HK13.out, HB3.out, fun h => by simp at h⟩
        · have h1 : (kd == 1) = false := by simpa using fun h => h13 (.inl h)
          have h3 : (kd == 3) = false := by simpa using fun h => h13 (.inr h)
          have HHS := Lib.hid (HH0.out h13)
          clear h13
          go_wp2_with fail
          go_meet
          exact ⟨false, rfl, fun h => by simp at h, HB3.out, fun _ => HHS.out⟩
      case rest =>
      obtain ⟨bb, rfl, HQ⟩ := hcut
      rename World => wq
      clear HB3 HH0
      obtain ⟨s0, s1, s2, s3⟩ := tol_cells HQ.out.2.1.2.1
      simp only [] at s0 s1 s2 s3
      go_upto_if 36 with fail
      go_cut [8] from 37 to 42 (fun s8 wx => ∃ (ha : Option Addr) (hn hc : Nat) (hf : Nat → Bool), s8 = .slice ha hn hc ∧ Hid (HoleS w wr wx ⟨kd, bytes, holes, id⟩ ba bc ha hn hc hf))
      case first =>
        cases bb with
        | true =>
          have HHF := Lib.hid (fun w' => holes_fun holes w' (by have := HBN.out.2; omega))
          have HK13 := Lib.hid (HQ.out.1 rfl)
          have HFI := Lib.hid (HP.out.2 HK13.out)
          simp only [] at HFI
          go_wp2_with fail
          refine (HHF.out _).mono ?_
          rintro e w2 ⟨ha, hc, hn, hf, fine, rfl, h1, h2, h3, h4, h5⟩
          have e5 : fine = true := h5.trans HFI.out
          subst e5
          have HHS := Lib.hid (HoleS.read (p := ⟨kd, bytes, holes, id⟩) HTW.out HQ.out.2.1 h1 h2 h3 (h4 rfl) HK13.out)
          clear h1 h2 h3 h4 h5
          go_wp2_with fail
          go_meet
          exact ⟨ha, hn, hc, hf, rfl, HHS.out⟩
        | false =>
          have HHS := Lib.hid (HQ.out.2.2 rfl)
          go_wp2_with fail
          go_meet
          exact ⟨_, _, _, _, rfl, HHS.out⟩
      case rest =>
        obtain ⟨ha, hn, hc, hf, rfl, HHS⟩ := hcut
        rename World => wx
        clear s0 s1 s2 s3 HQ
        have HM1 := Lib.hid (HM.out.tch HHS.out.t)
        have HOB := Lib.hid HM.out.ob
        have HWR := Lib.hid HTW.out.size
        obtain ⟨s0, s1, s2, s3⟩ := tol_cells HHS.out.sb
        obtain ⟨c0, c1, c2, c3⟩ := tol_cells HHS.out.tb
        simp only [] at s0 s1 s2 s3
        by_cases hadd : kd = 0 ∨ kd = 1
        · have HXO : Hid (HeOk w wx (⟨bytes, ba, bc, .slice ha hn hc, hn, hf, id⟩ : HeldV)) := Lib.hid ⟨HB0.out, HBN.out.1, HHS.out.row, HHS.out.n⟩
          have HSE := Lib.hid (stepT_put (standT (L.take k)) ⟨kd, bytes, holes, id⟩ hadd HHS.out.hd)
          have HA5 := Lib.hid (HAH.out w wx (.slice aa A.length ac) A.length (A.flatMap heC) (⟨bytes, ba, bc, .slice ha hn hc, hn, hf, id⟩ : HeldV) rfl HM1.out.all (by have := HAL.out; omega))
          simp only [] at HA5
          rcases hadd with rfl | rfl
          all_goals
            go_upto_region 45 with (at_builtin; refine wpList_append_run rfl (.tmp 48) (.tmp 55) 65 rfl (.slice aa A.length ac) (.slice (some ⟨wx.heap.size, 0, none⟩) 1 1) (by simp [Act.eval]) (by simp [Act.eval]) _ HA5.out ?_; rintro vv w7 ⟨g7, c7, rfl, n1, n2, n3, n4, n5⟩; have HN1 := Lib.hid n1; have HN4 := Lib.hid n4; clear n1 n2 n3 n4 n5)
            have HTB7 := Lib.hid (obj_off HHS.out.tb HN4.out (sep_row HM1.out.all.row (by decide)))
            obtain ⟨d0, d1, d2, d3⟩ := tol_cells HTB7.out
            have HD : Hid (DoneS w w7 L k ⟨_, bytes, holes, id⟩ (some ⟨g7, 0, none⟩) c7 (A ++ [(⟨bytes, ba, bc, .slice ha hn hc, hn, hf, id⟩ : HeldV)]) oa oc outs ⟨true, [], 0, 0⟩ (.slice none 0 0)) := Lib.hid (MidS.add HM1.out HN4.out (by simpa [heC] using HN1.out) HXO.out HSE.out)
            have HA9 := Lib.hid (HAP.out w w7 (.slice oa k oc) k (outs.flatMap tolC) (⟨true, [], 0, 0⟩ : TTold) (.slice none 0 0 : Value) rfl HD.out.out (by have := HLL.out; have := HLT.out; omega))
            simp only [] at HA9
            go_wp2_with (at_builtin; refine wpList_append_run rfl (.tmp 145) (.tmp 147) 29 rfl (.slice oa k oc) (.slice (some ⟨(w7).heap.size, 0, none⟩) 1 1) (by simp [Act.eval]) (by simp [Act.eval]) _ HA9.out ?_; rintro vv w9 ⟨g9, c9, rfl, n1, n2, n3, n4, n5⟩; have HN9 := Lib.hid n1; have HM9 := Lib.hid n4; clear n1 n2 n3 n4 n5)
            go_roundg (L.length - (k + 1))
            case rel => exact ⟨k + 1, some ⟨g7, 0, none⟩, c7, A ++ [(⟨bytes, ba, bc, .slice ha hn hc, hn, hf, id⟩ : HeldV)], some ⟨g9, 0, none⟩, c9, outs ++ [((⟨true, [], 0, 0⟩ : TTold), (.slice none 0 0 : Value))], by have := HLT.out; omega, rfl, by rw [List.length_append]; rfl, rfl, by go_num, Lib.hid (HD.out.next HPE.out HLT.out HN9.out HM9.out)⟩
            case measure => have := HLT.out; omega
        · by_cases hdel : kd = 2 ∨ kd = 3
          · have hse := stepT_out (standT (L.take k)) ⟨kd, bytes, holes, id⟩ hdel HHS.out.hd
            simp only [] at hse
            have hway := fun w' (t : Tch [] wx w') => way_any w' bytes ba bc (.slice ha hn hc) hn hf (HB0.out.tch (HTW.out.trans (HHS.out.t.trans t))) ((HeOk.blAt (x := (⟨bytes, ba, bc, .slice ha hn hc, hn, hf, id⟩ : HeldV)) ⟨HB0.out, HBN.out.1, HHS.out.row, HHS.out.n⟩).tch t) (by have := HHS.out.n; omega) HBN.out.1
            rw [wayB_enc] at hway
            have hpu : u8P (pathOf (fun i => decide (i < hn) && hf i) bytes) := u8P_pathOf HB0.out.u8
            generalize pathOf (fun i => decide (i < hn) && hf i) bytes = P at hse hway hpu
            have HSE := Lib.hid hse
            have HPU := Lib.hid hpu
            obtain ⟨sy, hsy⟩ : ∃ sy, sy = bs (toB (enc P)) := ⟨_, rfl⟩
            rw [← hsy] at hway
            have HSY := Lib.hid hsy
            have HWY := Lib.hid hway
            have HR0 := Lib.hid (Own.new (Tch.refl [] wx) 67 3)
            clear hse hpu hsy hway hadd
            rcases hdel with rfl | rfl
            all_goals
              go_wp2_with fail
              go_loopg [9, 63] A.length (fun nn s9 s63 wq => ∃ (i rn : Nat) (ra : Option Addr) (rc : Nat), i ≤ A.length ∧ nn = A.length - i ∧ s9 = .slice ra rn rc ∧ s63 = .int .i64 i ∧ Hid (rn = (keepV (A.take i) P id).length ∧ Own wx wq 67 3 (.slice ra rn rc) rn ((keepV (A.take i) P id).flatMap heC)))
              case atStart => exact ⟨0, 0, _, 0, Nat.zero_le _, rfl, rfl, rfl, Lib.hid ⟨rfl, HR0.out⟩⟩
              case round =>
                obtain ⟨i, rn, ra, rc, hi, rfl, rfl, rfl, HZ⟩ := hrel
                rename World => wq
                clear s0 s1 s2 s3 c0 c1 c2 c3
                by_cases hlt : i < A.length
                · have HLI := Lib.hid hlt
                  have hlt2 : (i : Int) < (A.length : Int) := by omega
                  have hx : A[i]? = some A[i] := List.getElem?_eq_getElem hlt
                  obtain ⟨g, rfl, hg, hcl⟩ := he_at (HM1.out.all.tch HZ.out.2.t) hx
                  have HXO := Lib.hid ((HM1.out.he A[i] (List.getElem_mem hlt)).tch HZ.out.2.t)
                  have HKS : Hid (∀ Q, hePath A[i] = Q → keepV (A.take (i + 1)) P id = keepV (A.take i) P id ++ if (decide (Q = P) && (id == A[i].id)) = true then [] else [A[i]]) := Lib.hid (fun Q h => by rw [← h]; exact keepV_succ hlt P id)
                  have x0 := hcl 0 (by omega)
                  have x1 := hcl 1 (by omega)
                  have x2 := hcl 2 (by omega)
                  generalize A[i] = x at *
                  obtain ⟨xl, xa, xc, xv, xn, xf, xid⟩ := x
                  obtain ⟨va, vc, hxv⟩ : ∃ va vc, xv = .slice va xn vc := ownsRow_slice HXO.out.row
                  subst hxv
                  simp only [heC, List.getElem?_cons_succ, List.getElem?_cons_zero, Nat.add_zero] at x0 x1 x2
                  have hwx := fun w' (t : Tch [] wq w') => way_any w' xl xa xc (.slice va xn vc) xn xf (HXO.out.by0.tch (HTW.out.trans (HHS.out.t.trans (HZ.out.2.t.trans t)))) (HXO.out.blAt.tch t) (by have := HXO.out.n; simp only [] at this; omega) HXO.out.len
                  rw [wayB_enc] at hwx
                  have hxu : u8P (pathOf (fun i => decide (i < xn) && xf i) xl) := u8P_pathOf HXO.out.by0.u8
                  generalize hxp : pathOf (fun i => decide (i < xn) && xf i) xl = XP at hwx hxu
                  have HKS2 := Lib.hid (HKS.out XP hxp)
                  clear HKS
                  simp only [] at HKS2
                  obtain ⟨sx, hsx⟩ : ∃ sx, sx = bs (toB (enc XP)) := ⟨_, rfl⟩
                  rw [← hsx] at hwx
                  have HSX := Lib.hid hsx
                  have HWX := Lib.hid hwx
                  have HXU := Lib.hid hxu
                  obtain ⟨s0, s1, s2, s3⟩ := tol_cells (HZ.out.2.t.obj HHS.out.sb (by simp))
                  simp only [] at s0 s1 s2 s3
                  clear hx hg hcl hwx hxu hsx hxp hi hlt
                  go_upto_region 20 with fail
                  have HXB := Lib.hid (heap_alloc_new wq (.cells #[.slice xa xl.length xc, .slice va xn vc, .int .u64 xid] 67))
                  have HT1 := Lib.hid ((Tch.refl [] wq).alloc (.cells #[.slice xa xl.length xc, .slice va xn vc, .int .u64 xid] 67))
                  have HSB1 := Lib.hid (HT1.out.obj (HZ.out.2.t.obj HHS.out.sb (by simp)) (by simp))
                  simp only [] at HSB1
                  clear x0 x1 x2 s0 s1 s2 s3
                  generalize (wq.alloc (.cells #[.slice xa xl.length xc, .slice va xn vc, .int .u64 xid] 67)) = wy at *
                  have HCL : Hid (∀ w', Tch [] wy w' → (w'.cell? ⟨wr.heap.size, 0, none⟩ = some (.int .i64 _) ∧ w'.cell? ⟨wr.heap.size, 1, none⟩ = some (.slice ba bytes.length bc) ∧ w'.cell? ⟨wr.heap.size, 2, none⟩ = some (.string (bs holes)) ∧ w'.cell? ⟨wr.heap.size, 3, none⟩ = some (.int .u64 id)) ∧ w'.cell? ⟨wq.heap.size, 0, none⟩ = some (.slice xa xl.length xc) ∧ w'.cell? ⟨wq.heap.size, 1, none⟩ = some (.slice va xn vc) ∧ w'.cell? ⟨wq.heap.size, 2, none⟩ = some (.int .u64 xid)) := Lib.hid (fun w' t => ⟨tol_cells (t.obj HSB1.out (by simp)), he_box (t.obj HXB.out (by simp))⟩)
                  obtain ⟨⟨s0, s1, s2, s3⟩, y0, y1, y2⟩ := HCL.out wy (Tch.refl _ _)
                  go_cut [83] from 67 to 83 (fun s83 wz => ∃ bb : Bool, s83 = .bool bb ∧ Hid (bb = (!(decide (XP = P) && (id == xid))) ∧ Tch [] wy wz))
                  case first =>
                    by_cases hid : xid = id
                    · have b1 : (xid == id) = true := by simpa using hid
                      have b2 : (xid != id) = false := by simpa using hid
                      have b3 : (id == xid) = true := by simpa using hid.symm
                      have HWY1 := Lib.hid (fun w' (t : Tch [] wy w') => HWY.out w' (HZ.out.2.t.trans (HT1.out.trans t)))
                      have HWX1 := Lib.hid (fun w' (t : Tch [] wy w') => HWX.out w' (HT1.out.trans t))
                      have HB3 := Lib.hid b3
                      have HSS2 : Hid ((XP = P → sx = sy) ∧ (XP ≠ P → sx ≠ sy)) := Lib.hid ⟨fun e => by rw [HSX.out, HSY.out, e], fun h e => h (txt_inj HXU.out HPU.out (by rw [HSX.out, HSY.out] at e; injection e with e; unfold txt; simpa using e))⟩
                      clear hid b3
                      go_wp2_with fail
                      go_region_held3 (fun w' => w'.cell? ⟨wr.heap.size, 1, none⟩ = some (.slice ba bytes.length bc) ∧ w'.cell? ⟨wr.heap.size, 3, none⟩ = some (.int .u64 id) ∧ w'.cell? ⟨wq.heap.size, 0, none⟩ = some (.slice xa xl.length xc) ∧ w'.cell? ⟨wq.heap.size, 1, none⟩ = some (.slice va xn vc) ∧ w'.cell? ⟨wq.heap.size, 2, none⟩ = some (.int .u64 xid)) (go_keep)
                        (first
                          | (go_at_call_of 36 va; (with_reducible refine (HWX1.out _ ?_).mono ?_); (repeat (first | exact Tch.refl _ _ | exact Hid.out (by assumption) | refine Tch.drew ?_ | refine Tch.alloc ?_ _)); rintro e w5 ⟨rfl, q3⟩
                             have T5 : Hid (Tch [] wy w5) := Tch.trans (by (repeat (first | exact Tch.refl _ _ | exact Hid.out (by assumption) | refine Tch.drew ?_ | refine Tch.alloc ?_ _))) q3
                             clear q3 s0 s1 s2 s3 y0 y1 y2
                             obtain ⟨⟨s0, s1, s2, s3⟩, y0, y1, y2⟩ := HCL.out w5 T5.out)
                          | (go_at_call_of 36 ha; (with_reducible refine (HWY1.out _ ?_).mono ?_); (repeat (first | exact Tch.refl _ _ | exact Hid.out (by assumption) | refine Tch.drew ?_ | refine Tch.alloc ?_ _)); rintro e w6 ⟨rfl, q3⟩
                             have T6 : Hid (Tch [] wy w6) := Tch.trans (by (repeat (first | exact Tch.refl _ _ | exact Hid.out (by assumption) | refine Tch.drew ?_ | refine Tch.alloc ?_ _))) q3
                             clear q3 s0 s1 s2 s3 y0 y1 y2
                             obtain ⟨⟨s0, s1, s2, s3⟩, y0, y1, y2⟩ := HCL.out w6 T6.out))
                      go_wp2_with fail
                      go_meet
                      refine ⟨_, rfl, Lib.hid ⟨?_, T6.out⟩⟩
                      by_cases hp : XP = P
                      · have e := HSS2.out.1 hp
                        simp [e, hp, HB3.out]
                      · have e := HSS2.out.2 hp
                        have e2 : ¬ sx.toList = sy.toList := fun h => e (by
                          rw [ByteArray.toList_eq, ByteArray.toList_eq] at h
                          cases sx; cases sy
                          simp only [Array.toList_inj] at h
                          rw [h])
                        simp [e, hp, e2]
                    · have b1 : (xid == id) = false := by simpa using hid
                      have b2 : (xid != id) = true := by simpa using hid
                      have HB3 := Lib.hid (show (id == xid) = false by simpa using fun e => hid e.symm)
                      clear hid
                      go_wp2_with fail
                      go_quiet (fail)
                      go_wp2_with fail
                      go_meet
                      exact ⟨_, rfl, Lib.hid ⟨by rw [HB3.out, Bool.and_false]; rfl, (Tch.refl _ _).drewN _⟩⟩
                  case rest =>
                    obtain ⟨bb2, rfl, HQ⟩ := hcut
                    rename World => wz
                    have HTZ : Hid (Tch [] wq wz) := Lib.hid (HT1.out.trans HQ.out.2)
                    clear s0 s1 s2 s3 y0 y1 y2
                    obtain ⟨⟨s0, s1, s2, s3⟩, y0, y1, y2⟩ := HCL.out wz HQ.out.2
                    have HRL : Hid (rn ≤ 1000) := Lib.hid (by
                      rw [HZ.out.1]
                      refine Nat.le_trans (List.length_filter_le _ _) ?_
                      rw [List.length_take]
                      have := HAL.out
                      omega)
                    have hrI : (rn : Int) ≤ 1000 := by have := HRL.out; omega
                    cases bb2 with
                    | true =>
                      have HKE : Hid (keepV (A.take (i + 1)) P id = keepV (A.take i) P id ++ [(⟨xl, xa, xc, .slice va xn vc, xn, xf, xid⟩ : HeldV)]) := Lib.hid (by
                        have e := HQ.out.1
                        have e2 : (decide (XP = P) && (id == xid)) = false := by
                          cases h : (decide (XP = P) && (id == xid)) with
                          | false => rfl
                          | true => rw [h] at e; simp at e
                        rw [HKS2.out, e2]
                        rfl)
                      have HA6 := Lib.hid (HAH.out wx wz (.slice ra rn rc) rn ((keepV (A.take i) P id).flatMap heC) ⟨xl, xa, xc, .slice va xn vc, xn, xf, xid⟩ rfl (HZ.out.2.tch HTZ.out) (by have := HRL.out; omega))
                      simp only [] at HA6
                      go_wp2_with (at_builtin; refine wpList_append_run rfl (.tmp 84) (.tmp 86) 65 rfl (.slice ra rn rc) (.slice (some ⟨wz.heap.size, 0, none⟩) 1 1) (by simp [Act.eval]) (by simp [Act.eval]) _ HA6.out ?_; rintro vv w7 ⟨g7, c7, rfl, n1, n2, n3, n4, n5⟩; have HN1 := Lib.hid n1; clear n1 n2 n3 n4 n5)
                      go_roundg (A.length - (i + 1))
                      case rel => exact ⟨i + 1, rn + 1, _, _, HLI.out, rfl, rfl, by go_num, Lib.hid ⟨by rw [HKE.out, List.length_append, ← HZ.out.1]; rfl, by rw [HKE.out, List.flatMap_append]; simpa [heC] using HN1.out⟩⟩
                      case measure => have := HLI.out; omega
                    | false =>
                      have HKE : Hid (keepV (A.take (i + 1)) P id = keepV (A.take i) P id) := Lib.hid (by
                        have e := HQ.out.1
                        have e2 : (decide (XP = P) && (id == xid)) = true := by
                          cases h : (decide (XP = P) && (id == xid)) with
                          | true => rfl
                          | false => rw [h] at e; simp at e
                        rw [HKS2.out, e2]
                        simp)
                      go_wp2_with fail
                      go_roundg (A.length - (i + 1))
                      case rel => exact ⟨i + 1, rn, _, _, HLI.out, rfl, rfl, by go_num, Lib.hid ⟨by rw [HKE.out]; exact HZ.out.1, by rw [HKE.out]; exact HZ.out.2.tch HTZ.out⟩⟩
                      case measure => have := HLI.out; omega
                · obtain rfl : i = A.length := by omega
                  have HZ2 : Hid (rn = (keepV A P id).length ∧ Own wx wq 67 3 (.slice ra rn rc) rn ((keepV A P id).flatMap heC)) := by
                    have h := HZ.out
                    rw [List.take_length] at h
                    exact Lib.hid h
                  obtain ⟨c0, c1, c2, c3⟩ := tol_cells (HZ2.out.2.t.obj HHS.out.tb (by simp))
                  have HD : Hid (DoneS w wq L k ⟨_, bytes, holes, id⟩ ra rc (keepV A P id) oa oc outs ⟨true, [], 0, 0⟩ (.slice none 0 0)) := Lib.hid (by
                    have ho := HZ2.out.2
                    rw [HZ2.out.1] at ho
                    exact (HM1.out.tch ho.t).cut ⟨HTW.out.trans (HHS.out.t.trans ho.t), ownsRow_low ho.row (Nat.le_trans HWR.out HHS.out.t.size)⟩ (fun x hx => (List.mem_filter.1 hx).1) (by rw [HSE.out, ← HM1.out.st, keepV_stand]))
                  clear HZ hlt hi
                  go_upto_region 45 with fail
                  have HA9 := Lib.hid (HAP.out w wq (.slice oa k oc) k (outs.flatMap tolC) (⟨true, [], 0, 0⟩ : TTold) (.slice none 0 0 : Value) rfl HD.out.out (by have := HLL.out; have := HLT.out; omega))
                  simp only [] at HA9
                  go_wp2_with (at_builtin; refine wpList_append_run rfl (.tmp 145) (.tmp 147) 29 rfl (.slice oa k oc) (.slice (some ⟨(wq).heap.size, 0, none⟩) 1 1) (by simp [Act.eval]) (by simp [Act.eval]) _ HA9.out ?_; rintro vv w9 ⟨g9, c9, rfl, n1, n2, n3, n4, n5⟩; have HN9 := Lib.hid n1; have HM9 := Lib.hid n4; clear n1 n2 n3 n4 n5)
                  go_roundg (L.length - (k + 1))
                  case rel => exact ⟨k + 1, ra, rc, keepV A P id, some ⟨g9, 0, none⟩, c9, outs ++ [((⟨true, [], 0, 0⟩ : TTold), (.slice none 0 0 : Value))], by have := HLT.out; omega, rfl, by rw [HZ2.out.1], rfl, by go_num, Lib.hid (HD.out.next HPE.out HLT.out HN9.out HM9.out)⟩
                  case measure => have := HLT.out; omega
          · by_cases hget : kd = 4
            · have HSE := Lib.hid (stepT_get (standT (L.take k)) ⟨kd, bytes, holes, id⟩ hget)
              subst hget
              have HG0 : Hid (GetS w wr wx L k aa ac A oa oc outs ⟨4, bytes, holes, id⟩ ba bc (idsTo (A.take 0) bytes) none 0) := Lib.hid ⟨HM1.out, HTW.out.trans HHS.out.t, HHS.out.sb, HHS.out.tb, ⟨HTW.out.trans HHS.out.t, World.ownsRow_nil _ _ _ _⟩⟩
              go_wp2_with fail
              go_loopg [94] A.length (fun nn s94 wq => ∃ i : Nat, i ≤ A.length ∧ nn = A.length - i ∧ s94 = .int .i64 i ∧ Hid (∃ ia ic, GetS w wr wq L k aa ac A oa oc outs ⟨4, bytes, holes, id⟩ ba bc (idsTo (A.take i) bytes) ia ic))
              case atStart => exact ⟨0, Nat.zero_le _, rfl, rfl, Lib.hid ⟨_, _, HG0.out⟩⟩
              case round =>
                obtain ⟨i, hi, rfl, rfl, HZ⟩ := hrel
                rename World => wq
                obtain ⟨ia, ic, hgs⟩ := HZ.out
                have HGS := Lib.hid hgs
                clear s0 s1 s2 s3 c0 c1 c2 c3 hgs HZ
                have HIL : Hid ((idsTo (A.take i) bytes).length ≤ 1000) := Lib.hid (by
                  refine Nat.le_trans (idsFor_le _ _) ?_
                  unfold standV
                  rw [List.length_map, List.length_take]
                  have := HAL.out
                  omega)
                by_cases hlt : i < A.length
                · have HLI := Lib.hid hlt
                  have hlt2 : (i : Int) < (A.length : Int) := by omega
                  have hx : A[i]? = some A[i] := List.getElem?_eq_getElem hlt
                  obtain ⟨g, rfl, hg, hcl⟩ := he_at HGS.out.mid.all hx
                  have HXO := Lib.hid (HGS.out.mid.he A[i] (List.getElem_mem hlt))
                  have HKS : Hid (∀ b, fitsP (hePath A[i]) bytes = b → idsTo (A.take (i + 1)) bytes = if b = true then putO (idsTo (A.take i) bytes) A[i].id else idsTo (A.take i) bytes) := Lib.hid (fun b h => by rw [← h]; exact idsTo_succ hlt bytes)
                  have x0 := hcl 0 (by omega)
                  have x1 := hcl 1 (by omega)
                  have x2 := hcl 2 (by omega)
                  generalize A[i] = x at *
                  obtain ⟨xl, xa, xc, xv, xn, xf, xid⟩ := x
                  obtain ⟨va, vc, hxv⟩ : ∃ va vc, xv = .slice va xn vc := ownsRow_slice HXO.out.row
                  subst hxv
                  simp only [heC, List.getElem?_cons_succ, List.getElem?_cons_zero, Nat.add_zero] at x0 x1 x2
                  have hft := fun w' (t : Tch [] wq w') => fits_any w' xl bytes xa ba xc bc (HXO.out.by0.tch (HGS.out.t.trans t)) (HB0.out.tch (HGS.out.t.trans t)) (.slice va xn vc) xn xf (HXO.out.blAt.tch t) (by have := HXO.out.n; simp only [] at this; omega) (by have := HXO.out.len; simp only [] at this; omega) (by have := HBN.out.1; omega)
                  generalize hbf : fitsP (pathOf (fun i => decide (i < xn) && xf i) xl) bytes = bf at hft
                  have HKT2 := Lib.hid (HKS.out bf hbf)
                  clear HKS
                  have HFT := Lib.hid hft
                  obtain ⟨s0, s1, s2, s3⟩ := tol_cells HGS.out.sb
                  simp only [] at s0 s1 s2 s3
                  clear hx hg hcl hft hi hlt hbf
                  have HXB := Lib.hid (heap_alloc_new wq (.cells #[.slice xa xl.length xc, .slice va xn vc, .int .u64 xid] 67))
                  have HT1 := Lib.hid ((Tch.refl [] wq).alloc (.cells #[.slice xa xl.length xc, .slice va xn vc, .int .u64 xid] 67))
                  have HGS1 := Lib.hid (HGS.out.tch HT1.out)
                  have HF1 := Lib.hid (HFT.out _ HT1.out)
                  clear HFT
                  go_upto_region 28 with fail
                  clear x0 x1 x2 s0 s1 s2 s3
                  generalize (wq.alloc (.cells #[.slice xa xl.length xc, .slice va xn vc, .int .u64 xid] 67)) = wy at *
                  obtain ⟨s0, s1, s2, s3⟩ := tol_cells HGS1.out.sb
                  simp only [] at s0 s1 s2 s3
                  obtain ⟨y0, y1, y2⟩ := he_box HXB.out
                  go_wp2_with fail
                  refine HF1.out.mono ?_
                  rintro e w5 ⟨rfl, e5⟩
                  have e5' := e5.symm
                  subst e5'
                  clear s0 s1 s2 s3 y0 y1 y2
                  generalize hq : idsTo (A.take i) bytes = q at *
                  obtain ⟨y0, y1, y2⟩ := he_box HXB.out
                  obtain ⟨c0, c1, c2, c3⟩ := tol_cells HGS1.out.tb
                  have f1 := frozen_of (j := 1) HGS1.out.tb
                  have HQ := Lib.hid hq
                  clear hq
                  cases bf with
                  | true =>
                    have HPU := Lib.hid (put_any w wy q ia ic xid HGS1.out.ids (by have := HIL.out; omega))
                    have HKE : Hid (idsTo (A.take (i + 1)) bytes = putO q xid) := Lib.hid (by
                      have h := HKT2.out
                      simpa using h)
                    go_wp2_with fail
                    refine HPU.out.mono ?_
                    rintro e w6 ⟨a', c', rfl, t6, ho⟩
                    have HO6 := Lib.hid ho
                    have HGS6 := Lib.hid (HGS1.out.tch t6)
                    clear ho t6 y0 y1 y2 c0 c1 c2 c3 f1
                    obtain ⟨c0, c1, c2, c3⟩ := tol_cells HGS6.out.tb
                    have f1 := frozen_of (j := 1) HGS6.out.tb
                    have HGZ := Lib.hid (HGS6.out.set HWR.out HOB.out HO6.out)
                    go_wp2_with fail
                    go_roundg (A.length - (i + 1))
                    case rel => exact ⟨i + 1, HLI.out, rfl, by go_num, Lib.hid ⟨_, _, by rw [HKE.out]; exact HGZ.out⟩⟩
                    case measure => have := HLI.out; omega
                  | false =>
                    have HKE : Hid (idsTo (A.take (i + 1)) bytes = q) := Lib.hid (by
                      have h := HKT2.out
                      simpa using h)
                    go_wp2_with fail
                    go_roundg (A.length - (i + 1))
                    case rel => exact ⟨i + 1, HLI.out, rfl, by go_num, Lib.hid ⟨_, _, by rw [HKE.out]; exact HGS1.out⟩⟩
                    case measure => have := HLI.out; omega
                · obtain rfl : i = A.length := by omega
                  have HGE : Hid (GetS w wr wq L k aa ac A oa oc outs ⟨4, bytes, holes, id⟩ ba bc (idsFor (standT (L.take k)) bytes) ia ic) := by
                    have h := HGS.out
                    rw [List.take_length] at h
                    unfold idsTo at h
                    rw [HM.out.st] at h
                    exact Lib.hid h
                  have HIE : Hid ((idsFor (standT (L.take k)) bytes).length ≤ 1000) := by
                    have h := HIL.out
                    rw [List.take_length] at h
                    unfold idsTo at h
                    rw [HM.out.st] at h
                    exact Lib.hid h
                  try simp only [] at HSE
                  generalize idsFor (standT (L.take k)) bytes = q at *
                  have hqI : (q.length : Int) ≤ 1000 := by have := HIE.out; omega
                  obtain ⟨c0, c1, c2, c3⟩ := tol_cells HGE.out.tb
                  have f2 := frozen_of (j := 2) HGE.out.tb
                  have HZC := Lib.hid (heap_setCell_same wq (wr.heap.size + 1) 2 _ _ (.int .i64 q.length) HGE.out.tb)
                  have HD : Hid (DoneS w (wq.setCell ⟨wr.heap.size + 1, 2, none⟩ (.int .i64 q.length)) L k ⟨4, bytes, holes, id⟩ aa ac A oa oc outs ⟨true, q, q.length, 0⟩ (.slice ia q.length ic)) := Lib.hid (HGE.out.mid.told_done HWR.out HOB.out HGE.out.tb HGE.out.ids.row HSE.out)
                  clear HGS HIL hlt hi
                  go_upto_region 45 with fail
                  generalize wq.setCell ⟨wr.heap.size + 1, 2, none⟩ (.int .i64 q.length) = wz at *
                  have HZB : Hid (wz.heap[wr.heap.size + 1]? = some (.cells #[.bool true, .slice ia q.length ic, .int .i64 q.length, .int .i64 0] 33 (0, 0))) := Lib.hid (by simpa using HZC.out)
                  clear c0 c1 c2 c3 f2
                  obtain ⟨c0, c1, c2, c3⟩ := tol_cells HZB.out
                  have HA9 := Lib.hid (HAP.out w wz (.slice oa k oc) k (outs.flatMap tolC) (⟨true, q, q.length, 0⟩ : TTold) (.slice ia q.length ic : Value) rfl HD.out.out (by have := HLL.out; have := HLT.out; omega))
                  simp only [] at HA9
                  go_wp2_with (at_builtin; refine wpList_append_run rfl (.tmp 145) (.tmp 147) 29 rfl (.slice oa k oc) (.slice (some ⟨(wz).heap.size, 0, none⟩) 1 1) (by simp [Act.eval]) (by simp [Act.eval]) _ HA9.out ?_; rintro vv w9 ⟨g9, c9, rfl, n1, n2, n3, n4, n5⟩; have HN9 := Lib.hid n1; have HM9 := Lib.hid n4; clear n1 n2 n3 n4 n5)
                  go_roundg (L.length - (k + 1))
                  case rel => exact ⟨k + 1, aa, ac, A, some ⟨g9, 0, none⟩, c9, outs ++ [((⟨true, q, q.length, 0⟩ : TTold), (.slice ia q.length ic : Value))], by have := HLT.out; omega, rfl, rfl, rfl, by go_num, Lib.hid (HD.out.next HPE.out HLT.out HN9.out HM9.out)⟩
                  case measure => have := HLT.out; omega
            · have hk5 : kd = 5 := by
                have h1 := HP.out.1.1
                have h2 := HP.out.1.2.1
                simp only [] at h1 h2
                omega
              have HSE := Lib.hid (stepT_nodes (standT (L.take k)) ⟨kd, bytes, holes, id⟩ hk5)
              subst hk5
              have hmm := @run_makeMap Tryz.prog
              obtain ⟨B, hB⟩ : ∃ B, B = wx.heap.size := ⟨_, rfl⟩
              have HBB := Lib.hid hB
              have HSL : Hid ((standV A).length = A.length) := Lib.hid (by unfold standV; rw [List.length_map])
              have HS0 : Hid (SM (wx.alloc (.map #[] 0)) wx.heap.size 0 []) := Lib.hid (World.ownsMap_made _ _ _ _)
              have HPL := Lib.hid (pathsTo_len (He.len HM1.out.he))
              have HUP := Lib.hid (He.u8 HM1.out.he)
              clear hB
              go_wp2_with fail
              clear hmm
              go_loopg [121] A.length (fun nn s121 wq => ∃ i : Nat, i ≤ A.length ∧ nn = A.length - i ∧ s121 = .int .i64 i ∧ Hid (Tch [] wx wq ∧ SM wq wx.heap.size (pathsTo (standV A) i).length (pathsTo (standV A) i)))
              case atStart => exact ⟨0, Nat.zero_le _, rfl, rfl, Lib.hid ⟨(Tch.refl _ _).alloc _, HS0.out⟩⟩
              case round =>
                obtain ⟨i, hi, rfl, rfl, HZ⟩ := hrel
                rename World => wq
                clear s0 s1 s2 s3 c0 c1 c2 c3
                by_cases hlt : i < A.length
                · have HLI := Lib.hid hlt
                  have hlt2 : (i : Int) < (A.length : Int) := by omega
                  have hx : A[i]? = some A[i] := List.getElem?_eq_getElem hlt
                  obtain ⟨g, rfl, hg, hcl⟩ := he_at (HM1.out.all.tch HZ.out.1) hx
                  have HXO := Lib.hid ((HM1.out.he A[i] (List.getElem_mem hlt)).tch HZ.out.1)
                  have HKS : Hid (∀ Q, hePath A[i] = Q → pathsTo (standV A) (i + 1) = pathsTo (standV A) i ++ initsP Q) := Lib.hid (fun Q h => by
                    rw [pathsTo_succ (standV A) (by rw [HSL.out]; exact hlt), ← h]
                    congr 2
                    unfold standV
                    rw [List.getElem_map]
                    rfl)
                  have x0 := hcl 0 (by omega)
                  have x1 := hcl 1 (by omega)
                  have x2 := hcl 2 (by omega)
                  have HXL : Hid (∀ Q, hePath A[i] = Q → Q.length ≤ 20000) := Lib.hid (fun Q h => by
                    rw [← h]
                    have := HXO.out.len
                    simpa [hePath, pathOf] using this)
                  generalize A[i] = x at *
                  obtain ⟨xl, xa, xc, xv, xn, xf, xid⟩ := x
                  obtain ⟨va, vc, hxv⟩ : ∃ va vc, xv = .slice va xn vc := ownsRow_slice HXO.out.row
                  subst hxv
                  simp only [heC, List.getElem?_cons_succ, List.getElem?_cons_zero, Nat.add_zero] at x0 x1 x2
                  have hwx := fun w' (t : Tch [] wq w') => way_any w' xl xa xc (.slice va xn vc) xn xf (HXO.out.by0.tch (HTW.out.trans (HHS.out.t.trans (HZ.out.1.trans t)))) (HXO.out.blAt.tch t) (by have := HXO.out.n; simp only [] at this; omega) HXO.out.len
                  rw [wayB_enc] at hwx
                  generalize hxp : pathOf (fun i => decide (i < xn) && xf i) xl = XP at hwx
                  have HKS2 := Lib.hid (HKS.out XP hxp)
                  have HXL2 := Lib.hid (HXL.out XP hxp)
                  clear HKS HXL
                  obtain ⟨sx, hsx⟩ : ∃ sx, sx = bs (toB (enc XP)) := ⟨_, rfl⟩
                  rw [← hsx] at hwx
                  have HSX := Lib.hid hsx
                  have HWX := Lib.hid hwx
                  clear hx hg hcl hwx hxp hi hlt hsx
                  have HXB := Lib.hid (heap_alloc_new wq (.cells #[.slice xa xl.length xc, .slice va xn vc, .int .u64 xid] 67))
                  have HT1 := Lib.hid ((Tch.refl [] wq).alloc (.cells #[.slice xa xl.length xc, .slice va xn vc, .int .u64 xid] 67))
                  have HW1 := Lib.hid (HWX.out _ HT1.out)
                  clear HWX
                  go_upto_region 37 with fail
                  clear x0 x1 x2
                  generalize (wq.alloc (.cells #[.slice xa xl.length xc, .slice va xn vc, .int .u64 xid] 67)) = wy at *
                  obtain ⟨y0, y1, y2⟩ := he_box HXB.out
                  go_wp2_with fail
                  refine HW1.out.mono ?_
                  rintro e w5 ⟨rfl, t5⟩
                  have HT5 := Lib.hid (HT1.out.trans t5)
                  clear t5 y0 y1 y2
                  obtain ⟨bsq, hbs⟩ : ∃ l, l = pathsTo (standV A) i := ⟨_, rfl⟩
                  have HBS := Lib.hid hbs
                  clear hbs
                  have HM5 : Hid (SM w5 wx.heap.size (bsq.length + 0) (bsq ++ (List.range 0).map (fun m => XP.take m))) := Lib.hid (by rw [HBS.out]; simpa using HZ.out.2.tch HT5.out)
                  have HSZ : Hid (sx.size = 2 * XP.length) := Lib.hid (by rw [HSX.out, bs_size]; exact txt_len XP)
                  have HBL : Hid (bsq.length ≤ 20001000) := Lib.hid (by
                    rw [HBS.out]
                    have h1 := HPL.out i (by rw [HSL.out]; have := HLI.out; omega)
                    have h2 := HLI.out
                    have h3 := HAL.out
                    omega)
                  have hxI : (XP.length : Int) ≤ 20000 := by have := HXL2.out; omega
                  go_wp2_with fail
                  go_loopg [18] (XP.length + 1) (fun nn s18 wv => ∃ j : Nat, j ≤ XP.length + 1 ∧ nn = XP.length + 1 - j ∧ s18 = .int .i64 (2 * (j : Int)) ∧ Hid (Tch [] wx wv ∧ SM wv wx.heap.size (bsq.length + j) (bsq ++ (List.range j).map (fun m => XP.take m))))
                  case atStart => exact ⟨0, Nat.zero_le _, rfl, rfl, Lib.hid ⟨HZ.out.1.trans HT5.out, HM5.out⟩⟩
                  case round =>
                    obtain ⟨j, hj, rfl, rfl, HY⟩ := hrel
                    rename World => wv
                    by_cases hjl : j ≤ XP.length
                    · have HJL := Lib.hid hjl
                      have h1 : 2 * (j : Int) ≤ (sx.size : Int) := by have := HSZ.out; omega
                      have h0 : (0 : Int) ≤ 2 * (j : Int) := by omega
                      have HKEY : Hid (keyOf Tryz.prog 9 (.string (sx.extract 0 (2 * j))) = some (litP (XP.take j))) := Lib.hid (by
                        rw [keyOf_string_mk Tryz.underlying9 (by
                          have h := HSZ.out
                          have h2 := HXL2.out
                          rw [ByteArray.size_extract]
                          unfold maxLen
                          omega)]
                        rw [HSX.out, bs_extract]
                        unfold litP
                        rw [← txt_take]
                        simp [txt])
                      clear hj
                      go_wp2_with (at_mapUpdate; refine wpList_mapUpdate_own _ rfl _ _ _ 70 rfl 9 4 sm_law Tryz.underlying70 _ wx.heap.size _ _ rfl HY.out.2 (by have := HBL.out; have := HJL.out; have := HXL2.out; unfold maxLen; omega) (.string (sx.extract 0 (2 * j))) (.bool true) (litP (XP.take j)) (by simp [Act.eval]) rfl HKEY.out _ [] (plainElem_bool Tryz.underlying4 true) ?_; intro w1 hown1 hgrow1; have HO1 := Lib.hid hown1; have HG1 := Lib.hid hgrow1; clear hown1 hgrow1)
                      go_roundg (XP.length + 1 - (j + 1))
                      case rel => exact ⟨j + 1, by have := HJL.out; omega, rfl, by go_num, Lib.hid ⟨tch_new HY.out.1 (grown_tch1 HG1.out) (fun g hg => by rw [List.mem_singleton.1 hg]; exact Nat.le_refl _), by rw [initsP_take, ← List.append_assoc]; exact SM.more HO1.out rfl⟩⟩
                      case measure => have := HJL.out; omega
                    · obtain rfl : j = XP.length + 1 := by omega
                      have h1 : (sx.size : Int) < 2 * ((XP.length + 1 : Nat) : Int) := by have := HSZ.out; omega
                      have HYE : Hid (Tch [] wx wv ∧ SM wv wx.heap.size (pathsTo (standV A) (i + 1)).length (pathsTo (standV A) (i + 1))) := Lib.hid ⟨HY.out.1, by
                        have h := HY.out.2
                        rw [HKS2.out, List.length_append, initsP_len, ← HBS.out]
                        exact h⟩
                      clear hjl hj HY
                      go_wp2_with fail
                      go_roundg (A.length - (i + 1))
                      case rel => exact ⟨i + 1, HLI.out, rfl, by go_num, HYE⟩
                      case measure => have := HLI.out; omega
                · obtain rfl : i = A.length := by omega
                  have HZ2 : Hid (Tch [] wx wq ∧ SM wq wx.heap.size (pathsTo (standV A) (standV A).length).length (pathsTo (standV A) (standV A).length)) := by
                    have h := HZ
                    rw [← HSL.out] at h
                    exact h
                  have HKEY : Hid (keyOf Tryz.prog 9 (.string ⟨#[]⟩) = some (litP [])) := Lib.hid (by
                    rw [keyOf_string_mk Tryz.underlying9 (by unfold maxLen; exact Nat.zero_le _)]
                    rfl)
                  have HPB : Hid ((pathsTo (standV A) (standV A).length).length ≤ 20001000) := Lib.hid (by
                    have h1 := HPL.out (standV A).length (Nat.le_refl _)
                    have h2 := HSL.out
                    have h3 := HAL.out
                    omega)
                  have HFIN : Hid (∀ w1, SM w1 wx.heap.size ((pathsTo (standV A) (standV A).length).length + 1) (pathsTo (standV A) (standV A).length ++ [[]]) → Maps.size (setOf (H := Unit) (.lit (.bool true)) ((pathsTo (standV A) (standV A).length ++ [[]]).map litP)) = (nodesS (standV A)).length ∧ (nodesS (standV A)).length ≤ 20001001) := Lib.hid (fun w1 h => by
                    obtain ⟨h1, h2⟩ := SM.count h HUP.out
                    refine ⟨h1, ?_⟩
                    have := HPB.out
                    omega)
                  obtain ⟨c0, c1, c2, c3⟩ := tol_cells (HZ2.out.1.obj HHS.out.tb (by simp))
                  clear HZ hlt hi
                  go_upto_region 44 with (at_mapUpdate; refine wpList_mapUpdate_own _ rfl _ _ _ 70 rfl 9 4 sm_law Tryz.underlying70 _ wx.heap.size _ _ rfl HZ2.out.2 (by have := HPB.out; unfold maxLen; omega) (.string ⟨#[]⟩) (.bool true) (litP []) (by simp [Act.eval]) rfl HKEY.out _ [] (plainElem_bool Tryz.underlying4 true) ?_; intro w1 hown1 hgrow1; have HO1 := Lib.hid hown1; have HG1 := Lib.hid hgrow1; clear hown1 hgrow1)
                  have HS1 := Lib.hid (SM.more HO1.out rfl)
                  have HT1 : Hid (Tch [] wx w1) := Lib.hid (tch_new HZ2.out.1 (grown_tch1 HG1.out) (fun g hg => by rw [List.mem_singleton.1 hg]; exact Nat.le_refl _))
                  have HTB1 := Lib.hid (HT1.out.obj HHS.out.tb (by simp))
                  clear c0 c1 c2 c3
                  obtain ⟨c0, c1, c2, c3⟩ := tol_cells HTB1.out
                  have f3 := frozen_of (j := 3) HTB1.out
                  obtain ⟨hnn, hnl⟩ := HFIN.out w1 HS1.out
                  generalize hnd : (nodesS (standV A)).length = nd at hnn hnl
                  have HND : Hid ((nodesS (standT (L.take k))).length = nd) := Lib.hid (by rw [← HM.out.st]; exact hnd)
                  have hnI : (nd : Int) ≤ 20001001 := by omega
                  obtain ⟨sz, hsz⟩ : ∃ sz : Nat, sz = Maps.size (setOf (H := Unit) (.lit (.bool true)) ((pathsTo (standV A) (standV A).length ++ [[]]).map litP)) := ⟨_, rfl⟩
                  rw [← hsz] at hnn
                  have HLE := Lib.hid hsz
                  have HZC := Lib.hid (heap_setCell_same w1 (wr.heap.size + 1) 3 _ _ (.int .i64 nd) HTB1.out)
                  have HD : Hid (DoneS w (w1.setCell ⟨wr.heap.size + 1, 3, none⟩ (.int .i64 nd)) L k ⟨5, bytes, holes, id⟩ aa ac A oa oc outs ⟨true, [], 0, nd⟩ (.slice none 0 0)) := Lib.hid ((HM1.out.tch HT1.out).told_done HWR.out HOB.out HTB1.out (World.ownsRow_nil _ _ _ _) (by rw [HSE.out, HND.out]))
                  clear hsz
                  subst hnn
                  go_upto_region 45 with (at_len; refine wpList_len_own _ rfl _ 70 rfl 9 4 Tryz.underlying70 _ wx.heap.size _ _ rfl HS1.out ?_; rw [← HLE.out])
                  generalize w1.setCell ⟨wr.heap.size + 1, 3, none⟩ (.int .i64 sz) = wz at *
                  have HZB : Hid (wz.heap[wr.heap.size + 1]? = some (.cells #[.bool true, .slice none 0 0, .int .i64 0, .int .i64 sz] 33 (0, 0))) := Lib.hid (by simpa using HZC.out)
                  clear c0 c1 c2 c3 f3
                  obtain ⟨c0, c1, c2, c3⟩ := tol_cells HZB.out
                  have HA9 := Lib.hid (HAP.out w wz (.slice oa k oc) k (outs.flatMap tolC) (⟨true, [], 0, sz⟩ : TTold) (.slice none 0 0 : Value) rfl HD.out.out (by have := HLL.out; have := HLT.out; omega))
                  simp only [] at HA9
                  go_wp2_with (at_builtin; refine wpList_append_run rfl (.tmp 145) (.tmp 147) 29 rfl (.slice oa k oc) (.slice (some ⟨(wz).heap.size, 0, none⟩) 1 1) (by simp [Act.eval]) (by simp [Act.eval]) _ HA9.out ?_; rintro vv w9 ⟨g9, c9, rfl, n1, n2, n3, n4, n5⟩; have HN9 := Lib.hid n1; have HM9 := Lib.hid n4; clear n1 n2 n3 n4 n5)
                  go_roundg (L.length - (k + 1))
                  case rel => exact ⟨k + 1, aa, ac, A, some ⟨g9, 0, none⟩, c9, outs ++ [((⟨true, [], 0, sz⟩ : TTold), (.slice none 0 0 : Value))], by have := HLT.out; omega, rfl, rfl, rfl, by go_num, Lib.hid (HD.out.next HPE.out HLT.out HN9.out HM9.out)⟩
                  case measure => have := HLT.out; omega
    · obtain rfl : k = L.length := by omega
      clear hlt hk
      have hm := HM.out
      have HME : Hid (SpecEnd w L (.returned (.slice oa L.length oc)) wr) := Lib.hid ⟨oa, oc, outs, rfl, hm.out, hm.ids, by rw [hm.told, List.take_length]⟩
      clear hm
      go_wp2_with fail
      go_ret
      exact HME.out

end Go.Proofs.YtcolffccbmpndaaGreatDoor

namespace Go.Proofs.YtcolffccbmpndaaGreatDoor
open Go.RowKit Go.Deep
set_option maxRecDepth 100000

theorem stepT_fine (st : Stand) (p : StepD) (h : stepOk p) : (stepT st p).2.ok = true ∧ (stepT st p).2.ids.length ≤ st.length := by
  have hd : ∃ f, holesD p = some f := by
    unfold holesD
    split
    · rename_i h13
      obtain ⟨n, f, g1, -⟩ := h.2.2 h13
      rw [g1]; exact ⟨_, rfl⟩
    · exact ⟨_, rfl⟩
  obtain ⟨f, hd⟩ := hd
  have h1 := h.1
  have h2 := h.2.1
  by_cases c1 : p.kind = 0 ∨ p.kind = 1
  · rw [stepT_put st p c1 hd]; exact ⟨rfl, Nat.zero_le _⟩
  by_cases c2 : p.kind = 2 ∨ p.kind = 3
  · rw [stepT_out st p c2 hd]; exact ⟨rfl, Nat.zero_le _⟩
  by_cases c3 : p.kind = 4
  · rw [stepT_get st p c3]; exact ⟨rfl, idsFor_le _ _⟩
  · rw [stepT_nodes st p (by omega)]; exact ⟨rfl, Nat.zero_le _⟩
theorem runT_get (L : List StepD) {i : Nat} (hi : i < L.length) : (runT [] L)[i]? = some (stepT (standT (L.take i)) (L.getD i default)).2 := by
  have e : runT [] L = runT [] (L.take i ++ L.drop i) := by rw [List.take_append_drop]
  rw [e, runT_append, List.getElem?_append_right (by rw [runT_len, List.length_take]; omega), runT_len, List.length_take, Nat.min_eq_left (by omega), Nat.sub_self]
  have e2 : L.drop i = L.getD i default :: L.drop (i + 1) := by
    rw [List.drop_eq_getElem_cons hi]
    simp [List.getD, List.getElem?_eq_getElem hi]
  rw [e2]
  rfl

/-- Both runs, read side by side. -/
structure PairAt (w : World) (i : Nat) (g1 g2 : Nat) (t : TTold) (a1 : Option Addr) (c1 : Nat) (a2 : Option Addr) (c2 : Nat) : Prop where
  x0 : w.cell? ⟨g1, i * 4, none⟩ = some (.bool t.ok)
  x1 : w.cell? ⟨g1, i * 4 + 1, none⟩ = some (.slice a1 t.ids.length c1)
  x2 : w.cell? ⟨g1, i * 4 + 2, none⟩ = some (.int .i64 t.many)
  x3 : w.cell? ⟨g1, i * 4 + 3, none⟩ = some (.int .i64 t.nodes)
  y0 : w.cell? ⟨g2, i * 4, none⟩ = some (.bool t.ok)
  y1 : w.cell? ⟨g2, i * 4 + 1, none⟩ = some (.slice a2 t.ids.length c2)
  y2 : w.cell? ⟨g2, i * 4 + 2, none⟩ = some (.int .i64 t.many)
  y3 : w.cell? ⟨g2, i * 4 + 3, none⟩ = some (.int .i64 t.nodes)
  u1 : UAt w a1 t.ids
  u2 : UAt w a2 t.ids
  ok : t.ok = true
  len : t.ids.length ≤ 1000

theorem pair_of {w w1 w2 : World} {L : List StepD} {e1 e2 : Ending} (h1 : RunEnd w L e1 w1) (h2 : SpecEnd w1 L e2 w2) (hl : L.length ≤ 1000) (hok : ∀ i, i < L.length → stepOk (L.getD i default)) (hs : ∀ i, i < L.length → okS (L.getD i default)) :
    ∃ oa1 oc1 oa2 oc2, e1 = .returned (.slice oa1 L.length oc1) ∧ e2 = .returned (.slice oa2 L.length oc2) ∧ Tch [] w w2 ∧ ∀ i, i < L.length → ∃ g1 g2 t a1 c1 a2 c2, oa1 = some ⟨g1, 0, none⟩ ∧ oa2 = some ⟨g2, 0, none⟩ ∧ ∀ w', Tch [] w2 w' → PairAt w' i g1 g2 t a1 c1 a2 c2 := by
  obtain ⟨oa1, oc1, N, outs1, rfl, hO, hT1⟩ := h1
  obtain ⟨oa2, oc2, outs2, rfl, hO2, hI2, hT2⟩ := h2
  have hl1 : outs1.length = L.length := by have := congrArg List.length hT1; rw [List.length_map, runT_len] at this; exact this
  have hl2 : outs2.length = L.length := by have := congrArg List.length hT2; rw [List.length_map, runT_len] at this; exact this
  refine ⟨oa1, oc1, oa2, oc2, rfl, rfl, hO.row.t.trans hO2.t, fun i hi => ?_⟩
  have hr1 := hO.row.row
  rw [hl1] at hr1
  have hr2 := hO2.row
  obtain ⟨g1, cap1, e1, -⟩ := ownsRow_value hr1 (by omega)
  simp only [Value.slice.injEq, true_and] at e1
  obtain ⟨rfl, rfl⟩ := e1
  obtain ⟨g2, cap2, e2, -⟩ := ownsRow_value hr2 (by omega)
  simp only [Value.slice.injEq, true_and] at e2
  obtain ⟨rfl, rfl⟩ := e2
  have hp1 : outs1[i]? = some outs1[i] := List.getElem?_eq_getElem (by omega)
  have hp2 : outs2[i]? = some outs2[i] := List.getElem?_eq_getElem (by omega)
  have ht1 : (outs1[i]).1 = (stepT (standT (L.take i)) (L.getD i default)).2 := by
    have := congrArg (fun l => l[i]?) hT1
    simp only [List.getElem?_map, hp1, Option.map_some] at this
    rw [runT_get L hi] at this
    exact Option.some.inj this
  have ht2 : (outs2[i]).1 = (stepT (standT (L.take i)) (L.getD i default)).2 := by
    have := congrArg (fun l => l[i]?) hT2
    simp only [List.getElem?_map, hp2, Option.map_some] at this
    rw [runT_get L hi] at this
    exact Option.some.inj this
  have hfine := stepT_fine (standT (L.take i)) (L.getD i default) (hok i hi)
  have hsz := (stand_size L hs i (by omega)).1
  have hi1 := (hO.ids _ (List.mem_of_getElem? hp1)).1
  have hi2 := hI2 _ (List.mem_of_getElem? hp2)
  obtain ⟨a1, c1, hv1⟩ := ownsRow_slice hi1
  obtain ⟨a2, c2, hv2⟩ := ownsRow_slice hi2
  generalize outs1[i] = q1 at *
  generalize outs2[i] = q2 at *
  obtain ⟨t1, v1⟩ := q1
  obtain ⟨t2, v2⟩ := q2
  simp only [] at ht1 ht2 hv1 hv2 hi1 hi2
  rw [← ht1] at ht2 hfine
  obtain rfl := ht2.symm
  subst hv1
  subst hv2
  refine ⟨g1, g2, t1, a1, c1, a2, c2, rfl, rfl, fun w' t => ?_⟩
  have k1 := ownsRow_tch hr1 (hO2.t.trans t) (by simp)
  have k2 := ownsRow_tch hr2 t (by simp)
  have z1 := fun j (hj : j < 4) => (k1.cellAt (i * 4 + j) (by omega)).trans (flat_at tolC 4 (fun _ => rfl) outs1 i j _ hp1 hj)
  have z2 := fun j (hj : j < 4) => (k2.cellAt (i * 4 + j) (by omega)).trans (flat_at tolC 4 (fun _ => rfl) outs2 i j _ hp2 hj)
  exact ⟨z1 0 (by omega), z1 1 (by omega), z1 2 (by omega), z1 3 (by omega), z2 0 (by omega), z2 1 (by omega), z2 2 (by omega), z2 3 (by omega), (UAt.of_row (ownsRow_tch hi1 (hO2.t.trans t) (by simp))).1, (UAt.of_row (ownsRow_tch hi2 t (by simp))).1, hfine.1, by have := hfine.2; omega⟩

set_option maxHeartbeats 8000000 in
theorem trieRun_any (w : World) (L : List StepD) (sa : Option Addr) (cz : Nat) (hst : StepsAt w sa L) (ht : Tabs w) :
    Calls Tryz.prog 10 #[.slice sa L.length cz] w fun e w' => e = .returned (.bool true) ∧ Tch [] w w' := by
  have HF := Lib.hid (fits14_any w L sa cz hst)
  have HST := Lib.hid (fun w' (t : Tch [] w w') => hst.tch t)
  have HTB := Lib.hid ht
  clear hst ht
  go_enter Tryz.func10, Tryz.ntmps10
  go_wp2_with fail
  refine HF.out.mono ?_
  rintro e w1 ⟨b, rfl, t, hb⟩
  have HT1 := Lib.hid t
  have HB := Lib.hid hb
  clear t hb
  cases b with
  | false =>
    go_wp2_with fail
    go_ret
    exact ⟨rfl, HT1.out⟩
  | true =>
    have HSM := Lib.hid (smallTrie_any w1 L sa cz (HST.out w1 HT1.out) (HB.out (by simp)))
    go_wp2_with fail
    refine HSM.out.mono ?_
    rintro e w2 ⟨b, rfl, t, hb⟩
    have HT2 := Lib.hid (HT1.out.trans t)
    have HB2 := Lib.hid hb
    clear t hb
    cases b with
    | false =>
      go_wp2_with fail
      go_ret
      exact ⟨rfl, HT2.out⟩
    | true =>
      have HTS := Lib.hid (trieSteps_fun w2 L sa cz (HST.out w2 HT2.out) (HB2.out (by simp)))
      go_wp2_with fail
      refine HTS.out.mono ?_
      rintro e w3 ⟨b, rfl, t, hb⟩
      have HT3 := Lib.hid (HT2.out.trans t)
      have HB3 := Lib.hid hb
      clear t hb
      cases b with
      | false =>
        go_wp2_with fail
        go_ret
        exact ⟨rfl, HT3.out⟩
      | true =>
        have HSS := Lib.hid (HB2.out (by simp))
        have HOF := Lib.hid (HB3.out (by simp))
        have HOS : Hid (∀ i, i < L.length → okS (L.getD i default)) := Lib.hid (fun i hi => (okS_of HSS.out (fun i hi => (HOF.out i hi).1) _ (by rw [show L.getD i default = L[i] by simp [List.getD, List.getElem?_eq_getElem hi]]; exact List.getElem_mem hi)).1)
        clear HB HB2 HB3 HSM HTS
        have hlI : (L.length : Int) ≤ 1000 := by have := HSS.out.1; omega
        have HR1 := Lib.hid (runTrie_any L sa cz w3 (by have := HSS.out.1; omega) (HST.out w3 HT3.out) HOS.out (HTB.out.tch HT3.out))
        have HR2 := Lib.hid (fun w' (t : Tch [] w3 w') => specRun_any L sa cz w' (HST.out w' (HT3.out.trans t)) HSS.out HOF.out)
        go_wp2_with fail
        refine HR1.out.mono ?_
        intro e w4 hE
        have HE1 := Lib.hid hE
        obtain ⟨oa, oc, N, outs, rfl, hO, -⟩ := hE
        have HR3 := Lib.hid (HR2.out w4 hO.row.t)
        clear hO HR1 HR2
        go_wp2_with fail
        refine HR3.out.mono ?_
        intro e w5 hE
        obtain ⟨oa1, oc1, oa2, oc2, e1, rfl, t, hp⟩ := pair_of HE1.out hE HSS.out.1 (fun i hi => (HOF.out i hi).1) HOS.out
        simp only [Ending.returned.injEq, Value.slice.injEq, true_and] at e1
        obtain ⟨rfl, rfl⟩ := e1
        have HPA := Lib.hid hp
        have HT5 := Lib.hid (HT3.out.trans t)
        clear hE hp t HR3 HE1
        go_wp2_with fail
        go_loopg [29] L.length (fun nn s29 wr => ∃ i : Nat, i ≤ L.length ∧ nn = L.length - i ∧ s29 = .int .i64 i ∧ Hid (Tch [] w5 wr))
        case atStart => exact ⟨0, Nat.zero_le _, rfl, rfl, Tch.refl _ _⟩
        case round =>
          obtain ⟨i, hi, rfl, rfl, HZ⟩ := hrel
          rename World => wr
          by_cases hlt : i < L.length
          · have HLT := Lib.hid hlt
            have hlt2 : (i : Int) < (L.length : Int) := by omega
            obtain ⟨g1, g2, t, a1, c1, a2, c2, rfl, rfl, hpa⟩ := HPA.out i hlt
            obtain ⟨ok, ids, many, nodes⟩ := t
            obtain rfl : ok = true := (hpa wr HZ.out).ok
            have HPW := Lib.hid (fun w' (t : Tch [] wr w') => hpa w' (HZ.out.trans t))
            obtain ⟨x0, x1, x2, x3, y0, y1, y2, y3, u1, u2, -, hlen⟩ := HPW.out wr (Tch.refl _ _)
            obtain ⟨z0, z1, z2, z3, -⟩ := HPW.out (wr.alloc (.cells #[.bool true, .slice a2 ids.length c2, .int .i64 many, .int .i64 nodes] 33)) ((Tch.refl _ _).alloc _)
            simp only [] at x0 x1 x2 x3 y0 y1 y2 y3 z0 z1 z2 z3 u1 u2 hlen
            have HTA := Lib.hid (HZ.out.alloc (.cells #[.bool true, .slice a2 ids.length c2, .int .i64 many, .int .i64 nodes] 33))
            have HAL := Lib.hid (fun q => alike_same ((wr.alloc (.cells #[.bool true, .slice a2 ids.length c2, .int .i64 many, .int .i64 nodes] 33)).drewN q) ids ids a1 a2 c1 c2 (u1.tch (((Tch.refl _ _).alloc _).drewN q)) (u2.tch (((Tch.refl _ _).alloc _).drewN q)) (by omega) (by omega))
            simp only [decide_true] at HAL
            have d1 : (many != many) = false := by simp
            have d2 : (many == many) = true := by simp
            clear hpa u1 u2 hlen hlt hi HPW
            go_wp2_with fail
            go_quiet (first | (go_at_call 20; exact (HAL.out _).mono (fun e w' h => ⟨h.1, q_join h.2⟩)))
            go_wp2_with fail
            go_roundg (L.length - (i + 1))
            case rel => exact ⟨i + 1, HLT.out, rfl, by go_num, HTA.out.drewN _⟩
            case measure => have := HLT.out; omega
          · obtain rfl : i = L.length := by omega
            clear hlt hi
            go_wp2_with fail
            go_ret
            exact ⟨rfl, HT5.out.trans HZ.out⟩

set_option maxHeartbeats 8000000 in
theorem trieNodes_any (w : World) (L : List StepD) (sa : Option Addr) (cz : Nat) (hst : StepsAt w sa L) (ht : Tabs w) :
    Calls Tryz.prog 7 #[.slice sa L.length cz] w fun e w' => e = .returned (.bool true) ∧ Tch [] w w' := by
  have HF := Lib.hid (fits14_any w L sa cz hst)
  have HST := Lib.hid (fun w' (t : Tch [] w w') => hst.tch t)
  have HTB := Lib.hid ht
  clear hst ht
  go_enter Tryz.func7, Tryz.ntmps7
  go_wp2_with fail
  refine HF.out.mono ?_
  rintro e w1 ⟨b, rfl, t, hb⟩
  have HT1 := Lib.hid t
  have HB := Lib.hid hb
  clear t hb
  cases b with
  | false =>
    go_wp2_with fail
    go_ret
    exact ⟨rfl, HT1.out⟩
  | true =>
    have HSM := Lib.hid (smallTrie_any w1 L sa cz (HST.out w1 HT1.out) (HB.out (by simp)))
    go_wp2_with fail
    refine HSM.out.mono ?_
    rintro e w2 ⟨b, rfl, t, hb⟩
    have HT2 := Lib.hid (HT1.out.trans t)
    have HB2 := Lib.hid hb
    clear t hb
    cases b with
    | false =>
      go_wp2_with fail
      go_ret
      exact ⟨rfl, HT2.out⟩
    | true =>
      have HTS := Lib.hid (trieSteps_fun w2 L sa cz (HST.out w2 HT2.out) (HB2.out (by simp)))
      go_wp2_with fail
      refine HTS.out.mono ?_
      rintro e w3 ⟨b, rfl, t, hb⟩
      have HT3 := Lib.hid (HT2.out.trans t)
      have HB3 := Lib.hid hb
      clear t hb
      cases b with
      | false =>
        go_wp2_with fail
        go_ret
        exact ⟨rfl, HT3.out⟩
      | true =>
        have HSS := Lib.hid (HB2.out (by simp))
        have HOF := Lib.hid (HB3.out (by simp))
        have HOS : Hid (∀ i, i < L.length → okS (L.getD i default)) := Lib.hid (fun i hi => (okS_of HSS.out (fun i hi => (HOF.out i hi).1) _ (by rw [show L.getD i default = L[i] by simp [List.getD, List.getElem?_eq_getElem hi]]; exact List.getElem_mem hi)).1)
        clear HB HB2 HB3 HSM HTS
        have hlI : (L.length : Int) ≤ 1000 := by have := HSS.out.1; omega
        have HR1 := Lib.hid (runTrie_any L sa cz w3 (by have := HSS.out.1; omega) (HST.out w3 HT3.out) HOS.out (HTB.out.tch HT3.out))
        have HR2 := Lib.hid (fun w' (t : Tch [] w3 w') => specRun_any L sa cz w' (HST.out w' (HT3.out.trans t)) HSS.out HOF.out)
        go_wp2_with fail
        refine HR1.out.mono ?_
        intro e w4 hE
        have HE1 := Lib.hid hE
        obtain ⟨oa, oc, N, outs, rfl, hO, -⟩ := hE
        have HR3 := Lib.hid (HR2.out w4 hO.row.t)
        clear hO HR1 HR2
        go_wp2_with fail
        refine HR3.out.mono ?_
        intro e w5 hE
        obtain ⟨oa1, oc1, oa2, oc2, e1, rfl, t, hp⟩ := pair_of HE1.out hE HSS.out.1 (fun i hi => (HOF.out i hi).1) HOS.out
        simp only [Ending.returned.injEq, Value.slice.injEq, true_and] at e1
        obtain ⟨rfl, rfl⟩ := e1
        have HPA := Lib.hid hp
        have HT5 := Lib.hid (HT3.out.trans t)
        clear hE hp t HR3 HE1
        go_wp2_with fail
        go_loopg [29] L.length (fun nn s29 wr => ∃ i : Nat, i ≤ L.length ∧ nn = L.length - i ∧ s29 = .int .i64 i ∧ Hid (Tch [] w5 wr))
        case atStart => exact ⟨0, Nat.zero_le _, rfl, rfl, Tch.refl _ _⟩
        case round =>
          obtain ⟨i, hi, rfl, rfl, HZ⟩ := hrel
          rename World => wr
          by_cases hlt : i < L.length
          · have HLT := Lib.hid hlt
            have hlt2 : (i : Int) < (L.length : Int) := by omega
            obtain ⟨g1, g2, t, a1, c1, a2, c2, rfl, rfl, hpa⟩ := HPA.out i hlt
            obtain ⟨ok, ids, many, nodes⟩ := t
            obtain rfl : ok = true := (hpa wr HZ.out).ok
            have HPW := Lib.hid (fun w' (t : Tch [] wr w') => hpa w' (HZ.out.trans t))
            obtain ⟨x0, x1, x2, x3, y0, y1, y2, y3, u1, u2, -, -⟩ := HPW.out wr (Tch.refl _ _)
            obtain ⟨z0, z1, z2, z3, -⟩ := HPW.out (wr.alloc (.cells #[.bool true, .slice a2 ids.length c2, .int .i64 many, .int .i64 nodes] 33)) ((Tch.refl _ _).alloc _)
            simp only [] at x0 x1 x2 x3 y0 y1 y2 y3 z0 z1 z2 z3
            have HTA := Lib.hid (HZ.out.alloc (.cells #[.bool true, .slice a2 ids.length c2, .int .i64 many, .int .i64 nodes] 33))
            have d1 : (nodes != nodes) = false := by simp
            have d2 : (nodes == nodes) = true := by simp
            clear hpa hlt hi HPW u1 u2
            go_wp2_with fail
            go_quiet (fail)
            go_wp2_with fail
            go_roundg (L.length - (i + 1))
            case rel => exact ⟨i + 1, HLT.out, rfl, by go_num, HTA.out.drewN _⟩
            case measure => have := HLT.out; omega
          · obtain rfl : i = L.length := by omega
            clear hlt hi
            go_wp2_with fail
            go_ret
            exact ⟨rfl, HT5.out.trans HZ.out⟩

end Go.Proofs.YtcolffccbmpndaaGreatDoor
