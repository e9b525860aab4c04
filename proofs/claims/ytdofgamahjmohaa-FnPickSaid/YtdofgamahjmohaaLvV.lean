/- spec.ValidLevels. -/
import Derived.Test.YtdofgamahjmohaaLvD
namespace Go.Proofs.Ytdofgamahjmohaa
open Go.RowKit
set_option maxRecDepth 100000

set_option maxHeartbeats 4000000 in
theorem valid_any (LL : List (List Tb)) (la : Option Addr) (c : Nat) (o : Op) (w : World) (h : LvAt w LL la c) (hsh : ∀ ts ∈ LL, ∀ t ∈ ts, t.short) :
    Calls Try.prog 13 #[.slice la LL.length c, opV o] w (Guard w (Valid LL o)) := by
  have HST := Lib.hid h
  have HSH := Lib.hid hsh
  have HO : Hid (OpOk LL.length o → (∀ ts ∈ LL, ts.length ≤ 30) → (∀ ts ∈ LL, ∀ t ∈ ts, t.fine) → Ordered LL LL.length → Valid LL o) := Lib.hid (fun h1 h2 h3 h4 => ⟨h1, h2, h3, h4⟩)
  obtain ⟨lv, lt, tt, zt, bl, bt, mt, di⟩ := o
  have HT0 := Lib.hid ((Tch.refl [] w).alloc (.cells (opA lv lt tt zt bl bt mt di) 32))
  clear h hsh
  by_cases qn2 : (LL.length : Int) < 2
  · have e1 : decide ((LL.length : Int) < 2) = true := by simpa using qn2
    clear HO
    go_enter Try.func13, Try.ntmps13
    go_wp2_with fail
    go_ret
    exact ⟨false, rfl, by simp, HT0.out⟩
  have en2 : decide ((LL.length : Int) < 2) = false := by simpa using qn2
  by_cases qn7 : (7 : Int) < LL.length
  · have e1 : decide ((7 : Int) < LL.length) = true := by simpa using qn7
    clear HO
    go_enter Try.func13, Try.ntmps13
    go_wp2_with fail
    go_ret
    exact ⟨false, rfl, by simp, HT0.out⟩
  have en7 : decide ((7 : Int) < LL.length) = false := by simpa using qn7
  by_cases qne : lv = (LL.length : Int)
  rotate_left
  · have e1 : (lv == (LL.length : Int)) = false := by simpa using qne
    have e2 : decide (lv = (LL.length : Int)) = false := by simpa using qne
    clear HO
    go_enter Try.func13, Try.ntmps13
    go_wp2_with fail
    go_ret
    exact ⟨false, rfl, by simp, HT0.out⟩
  subst qne
  by_cases qlt1 : lt < 1
  · have e1 : decide (lt < 1) = true := by simpa using qlt1
    clear HO
    go_enter Try.func13, Try.ntmps13
    go_wp2_with fail
    go_ret
    exact ⟨false, rfl, by simp, HT0.out⟩
  have elt1 : decide (lt < 1) = false := by simpa using qlt1
  by_cases qlt2 : 100 < lt
  · have e1 : decide (100 < lt) = true := by simpa using qlt2
    clear HO
    go_enter Try.func13, Try.ntmps13
    go_wp2_with fail
    go_ret
    exact ⟨false, rfl, by simp, HT0.out⟩
  have elt2 : decide (100 < lt) = false := by simpa using qlt2
  by_cases qtt1 : tt < 1
  · have e1 : decide (tt < 1) = true := by simpa using qtt1
    clear HO
    go_enter Try.func13, Try.ntmps13
    go_wp2_with fail
    go_ret
    exact ⟨false, rfl, by simp, HT0.out⟩
  have ett1 : decide (tt < 1) = false := by simpa using qtt1
  by_cases qtt2 : 4 < tt
  · have e1 : decide (4 < tt) = true := by simpa using qtt2
    clear HO
    go_enter Try.func13, Try.ntmps13
    go_wp2_with fail
    go_ret
    exact ⟨false, rfl, by simp, HT0.out⟩
  have ett2 : decide (4 < tt) = false := by simpa using qtt2
  by_cases qzt1 : zt < 1
  · have e1 : decide (zt < 1) = true := by simpa using qzt1
    clear HO
    go_enter Try.func13, Try.ntmps13
    go_wp2_with fail
    go_ret
    exact ⟨false, rfl, by simp, HT0.out⟩
  have ezt1 : decide (zt < 1) = false := by simpa using qzt1
  by_cases qzt2 : 100 < zt
  · have e1 : decide (100 < zt) = true := by simpa using qzt2
    clear HO
    go_enter Try.func13, Try.ntmps13
    go_wp2_with fail
    go_ret
    exact ⟨false, rfl, by simp, HT0.out⟩
  have ezt2 : decide (100 < zt) = false := by simpa using qzt2
  by_cases qbl1 : bl < 1
  · have e1 : decide (bl < 1) = true := by simpa using qbl1
    clear HO
    go_enter Try.func13, Try.ntmps13
    go_wp2_with fail
    go_ret
    exact ⟨false, rfl, by simp, HT0.out⟩
  have ebl1 : decide (bl < 1) = false := by simpa using qbl1
  by_cases qbl2 : 1099511627776 < bl
  · have e1 : decide (1099511627776 < bl) = true := by simpa using qbl2
    clear HO
    go_enter Try.func13, Try.ntmps13
    go_wp2_with fail
    go_ret
    exact ⟨false, rfl, by simp, HT0.out⟩
  have ebl2 : decide (1099511627776 < bl) = false := by simpa using qbl2
  by_cases qbt1 : bt < 1
  · have e1 : decide (bt < 1) = true := by simpa using qbt1
    clear HO
    go_enter Try.func13, Try.ntmps13
    go_wp2_with fail
    go_ret
    exact ⟨false, rfl, by simp, HT0.out⟩
  have ebt1 : decide (bt < 1) = false := by simpa using qbt1
  by_cases qbt2 : 1099511627776 < bt
  · have e1 : decide (1099511627776 < bt) = true := by simpa using qbt2
    clear HO
    go_enter Try.func13, Try.ntmps13
    go_wp2_with fail
    go_ret
    exact ⟨false, rfl, by simp, HT0.out⟩
  have ebt2 : decide (1099511627776 < bt) = false := by simpa using qbt2
  by_cases qmt1 : mt < 1
  · have e1 : decide (mt < 1) = true := by simpa using qmt1
    clear HO
    go_enter Try.func13, Try.ntmps13
    go_wp2_with fail
    go_ret
    exact ⟨false, rfl, by simp, HT0.out⟩
  have emt1 : decide (mt < 1) = false := by simpa using qmt1
  by_cases qmt2 : 1099511627776 < mt
  · have e1 : decide (1099511627776 < mt) = true := by simpa using qmt2
    clear HO
    go_enter Try.func13, Try.ntmps13
    go_wp2_with fail
    go_ret
    exact ⟨false, rfl, by simp, HT0.out⟩
  have emt2 : decide (1099511627776 < mt) = false := by simpa using qmt2
  have HOK : Hid (OpOk LL.length ⟨(LL.length : Int), lt, tt, zt, bl, bt, mt, di⟩) := Lib.hid (by constructor <;> (first | rfl | (dsimp only; omega) | omega))
  have HN7 := Lib.hid (show LL.length ≤ 7 by omega)
  have h7 : (LL.length : Int) ≤ 7 := by omega
  clear qn2 qn7 qlt1 qlt2 qtt1 qtt2 qzt1 qzt2 qbl1 qbl2 qbt1 qbt2 qmt1 qmt2
  go_enter Try.func13, Try.ntmps13
  go_wp2_with fail
  clear en2 en7 elt1 elt2 ett1 ett2 ezt1 ezt2 ebl1 ebl2 ebt1 ebt2 emt1 emt2
  go_loopg [86] LL.length (fun nn s86 wr => ∃ k : Nat, k ≤ LL.length ∧ nn = LL.length - k ∧ s86 = .int .i64 k ∧ Hid ((∀ i, i < k → (LL.getD i []).length ≤ 30 ∧ ∀ t ∈ LL.getD i [], t.fine) ∧ Tch [] w wr))
  case atStart => exact ⟨0, Nat.zero_le _, rfl, rfl, fun i hi => absurd hi (Nat.not_lt_zero i), HT0.out⟩
  case round =>
    obtain ⟨k, hk, rfl, rfl, HR⟩ := hrel
    by_cases hlt : k < LL.length
    · have hlt2 : (k : Int) < LL.length := by omega
      cases la with
      | none => have h0 := (HST.out.nil rfl).2; rw [h0] at hlt; exact absurd hlt (by simp)
      | some a =>
      obtain ⟨hab, ta, tc, hc0, hts⟩ := HST.out.at' a rfl k hlt
      have hc : wr.cell? (a.add k) = some (.slice ta (LL.getD k []).length tc) := by rw [HR.out.2.cell (by rw [add_block]; exact hab) (by simp)]; exact hc0
      clear hab hc0
      generalize hp : LL.getD k [] = ts at *
      have HP := Lib.hid hp
      have HTS := Lib.hid hts
      have HLT := Lib.hid hlt
      clear hp hts hlt
      by_cases h30 : (30 : Int) < ts.length
      · have t1 : decide ((30 : Int) < ts.length) = true := by simpa using h30
        clear h30
        go_wp2_with fail
        go_ret
        exact ⟨false, rfl, by simp, HR.out.2⟩
      have t1 : decide ((30 : Int) < ts.length) = false := by simpa using h30
      have ht30 : (ts.length : Int) ≤ 30 := by omega
      clear h30
      go_wp2_with fail
      go_loopg [95] ts.length (fun nn s95 wr => ∃ i : Nat, i ≤ ts.length ∧ nn = ts.length - i ∧ s95 = .int .i64 i ∧ Hid ((∀ j, j < i → (ts.getD j default).fine) ∧ Tch [] w wr))
      case atStart => exact ⟨0, Nat.zero_le _, rfl, rfl, fun i hi => absurd hi (Nat.not_lt_zero i), HR.out.2⟩
      case round =>
        obtain ⟨i, hi, rfl, rfl, HI⟩ := hrel
        by_cases hlt : i < ts.length
        · have hlt2 : (i : Int) < ts.length := by omega
          cases ta with
          | none => have h0 := (HTS.out.nil rfl).2; rw [h0] at hlt; exact absurd hlt (by simp)
          | some b =>
          obtain ⟨a1, c1, a2, c2, hcc⟩ := (HTS.out.tch HI.out.2).at' b rfl i hlt
          have HLT2 := Lib.hid hlt
          generalize hpp : ts.getD i default = p at *
          obtain ⟨num, t1, ⟨l1, v1⟩, t2, ⟨l2, v2⟩, bytes, ver, stale, age⟩ := p
          obtain ⟨⟨x0, x1, x2, x3, x4, x5, x6⟩, x7, x8, x9, x10⟩ := hcc.all
          have HPP := Lib.hid hpp
          have HTX := Lib.hid (HI.out.2.alloc (.cells (tbA num t1 a1 l1.length c1 v1 t2 a2 l2.length c2 v2 bytes ver stale age) 44))
          clear hpp hcc hlt
          by_cases qb1 : bytes < 1
          · have e1 : decide (bytes < 1) = true := by simpa using qb1
            go_wp2_with fail
            go_ret
            exact ⟨false, rfl, by simp, HTX.out⟩
          have eb1 : decide (bytes < 1) = false := by simpa using qb1
          by_cases qb2 : 1099511627776 < bytes
          · have e1 : decide (1099511627776 < bytes) = true := by simpa using qb2
            go_wp2_with fail
            go_ret
            exact ⟨false, rfl, by simp, HTX.out⟩
          have eb2 : decide (1099511627776 < bytes) = false := by simpa using qb2
          by_cases qg1 : age < 0
          · have e1 : decide (age < 0) = true := by simpa using qg1
            go_wp2_with fail
            go_ret
            exact ⟨false, rfl, by simp, HTX.out⟩
          have eg1 : decide (age < 0) = false := by simpa using qg1
          by_cases qg2 : 1073741824 < age
          · have e1 : decide (1073741824 < age) = true := by simpa using qg2
            go_wp2_with fail
            go_ret
            exact ⟨false, rfl, by simp, HTX.out⟩
          have eg2 : decide (1073741824 < age) = false := by simpa using qg2
          have HF := Lib.hid (show Tb.fine ⟨num, t1, ⟨l1, v1⟩, t2, ⟨l2, v2⟩, bytes, ver, stale, age⟩ from ⟨by show (1 : Int) ≤ bytes; omega, by show bytes ≤ 1099511627776; omega, by show (0 : Int) ≤ age; omega, by show age ≤ 1073741824; omega⟩)
          clear qb1 qb2 qg1 qg2
          go_wp2_with fail
          go_roundg (ts.length - (i + 1))
          case rel =>
            refine ⟨i + 1, by have := HLT2.out; omega, rfl, by go_num, fun j hj => ?_, HTX.out⟩
            by_cases e : j = i
            · rw [e, HPP.out]; exact HF.out
            · exact HI.out.1 j (by omega)
          case measure => have := HLT2.out; omega
        · obtain rfl : i = ts.length := by omega
          go_wp2_with fail
          go_roundg (LL.length - (k + 1))
          case rel =>
            refine ⟨k + 1, by have := HLT.out; omega, rfl, by go_num, fun i hi => ?_, HI.out.2⟩
            by_cases e : i = k
            · rw [e, HP.out]; exact ⟨by omega, mem_getD default HI.out.1⟩
            · exact HR.out.1 i (by omega)
          case measure => have := HLT.out; omega
    · obtain rfl : k = LL.length := by omega
      have HF := Lib.hid (mem_getD (P := fun ts : List Tb => ts.length ≤ 30 ∧ ∀ t ∈ ts, t.fine) [] HR.out.1)
      have HIO := Lib.hid (inOrder_any LL la c wr (HST.out.tch HR.out.2) HN7.out (fun ts ht => (HF.out ts ht).1) HSH.out)
      clear hlt hk
      go_wp2_with (go_at_call 30; refine HIO.out.mono ?_; rintro e w5 ⟨b, rfl, h1, h2⟩; have H1 := Lib.hid h1; have H2 := Lib.hid h2; clear h1 h2)
      go_ret
      exact ⟨b, rfl, fun hb => HO.out HOK.out (fun ts ht => (HF.out ts ht).1) (fun ts ht => (HF.out ts ht).2) (H1.out hb), HR.out.2.trans H2.out⟩

end Go.Proofs.Ytdofgamahjmohaa
