/- Keys with versions in memory: how the package and the reference compare them. -/
import Derived.Test.YtdofgamahjmohaaBase
import Derived.Test.YtdofgamahjmohaaKeyP
import Derived.Outline
namespace Go.Proofs.Ytdofgamahjmohaa
open Go.RowKit
set_option maxRecDepth 100000

/-- Bytes in memory, as a slice. -/
structure By (w : World) (l : List Int) (a : Option Addr) (c : Nat) : Prop where
  cap : l.length ≤ c
  nil : a = none → c = 0 ∧ l = []
  cell : ∀ ad, a = some ad → ∀ j, j < l.length → ad.block < w.heap.size ∧ w.cell? (ad.add j) = some (.int .u8 (l.getD j 0))
  u8 : ∀ x ∈ l, 0 ≤ x ∧ x < 256

theorem By.tch {w w' : World} {l : List Int} {a : Option Addr} {c : Nat} (h : By w l a c) (t : Tch [] w w') : By w' l a c :=
  ⟨h.cap, h.nil, fun ad hd j hj => ⟨Nat.lt_of_lt_of_le (h.cell ad hd j hj).1 t.size, by rw [t.cell (by rw [add_block]; exact (h.cell ad hd j hj).1) (by simp)]; exact (h.cell ad hd j hj).2⟩, h.u8⟩

theorem getD_get {l : List Int} {j : Nat} {x : Int} (h : l[j]? = some x) : l.getD j 0 = x := by simp [List.getD, h]

theorem By.run {P : Program} {w : World} {l : List Int} {a : Option Addr} {c : Nat} (h : By w l a c) : (Extern.Bytes.bytesOf (.slice a l.length c)).run P w = .ok ⟨(Lib.bytesOf l).toArray⟩ w := by
  cases a with
  | none =>
    obtain ⟨-, rfl⟩ := h.nil rfl
    rfl
  | some ad =>
    have := Lib.run_loadBytesX (P := P) w l ad .empty (fun j x hj => by
      have hl : j < l.length := (List.getElem?_eq_some_iff.1 hj).1
      rw [(h.cell ad rfl j hl).2, getD_get hj])
    simpa [Extern.Bytes.bytesOf] using this

/-- The library's entry, at two slices of bytes. -/
theorem run_compare {P : Program} {w : World} {l m : List Int} {a b : Option Addr} {c d : Nat} (h : By w l a c) (k : By w m b d) :
    (Extern.BytealgCompare.compare #[.slice a l.length c, .slice b m.length d]).run P w = .ok (.int .i64 (cmpI l m)) w := by
  change Sem.run P (do pure (goInt (Extern.BytealgCompare.cmp (← Extern.Bytes.bytesOf (.slice a l.length c)) (← Extern.Bytes.bytesOf (.slice b m.length d))))) w = _
  simp only [Sem.run_bind, h.run, k.run, Sem.run_pure, Result.andThen]
  rw [Lib.cmp_eq, ← cmpI_lib l m h.u8 k.u8]
  rfl

theorem bcompare_any (l m : List Int) (a b : Option Addr) (c d : Nat) (w : World) (h : By w l a c) (k : By w m b d) :
    Calls Try.prog 62 #[.slice a l.length c, .slice b m.length d] w fun e w' => e = .returned (.int .i64 (cmpI l m)) ∧ w' = w := by
  have H := Lib.hid (run_compare (P := Try.prog) h k)
  clear h k
  go_enter Try.func62, Try.ntmps62
  go_wp2
  rw [run_callFunc_extern Try.func74 (by kernel_rfl) (by kernel_rfl) (by kernel_rfl) (e := Extern.BytealgCompare.compare) (by kernel_rfl), H.out]
  simp only [Result.andThen]
  rw [Oper.upon_value]
  go_wp2
  go_ret
  exact ⟨rfl, rfl⟩

theorem cmpI_cons (x y : Int) (a b : List Int) : cmpI (x :: a) (y :: b) = if x < y then -1 else if y < x then 1 else cmpI a b := rfl

theorem dq_tch {w wr : World} (h : ∃ q, wr = w.drewN q) : Tch [] w wr := by
  obtain ⟨q, rfl⟩ := h
  exact (Tch.refl _ _).drewN q
theorem dq_add {w wr : World} (h : ∃ q, wr = w.drewN q) (n : Nat) : ∃ q, wr.drewN n = w.drewN q := by
  obtain ⟨q, rfl⟩ := h
  exact ⟨q + n, World.drewN_drewN _ _ _⟩

set_option maxHeartbeats 1000000 in
theorem spec_Compare_q (l m : List Int) (a b : Option Addr) (c d : Nat) (w : World) (hl : l.length ≤ 2147483647) (hm : m.length ≤ 2147483647) (h : By w l a c) (k : By w m b d) :
    Calls Try.prog 27 #[.slice a l.length c, .slice b m.length d] w fun e w' => e = .returned (.int .i64 (cmpI l m)) ∧ ∃ q, w' = w.drewN q := by
  have HA := Lib.hid h
  have HB := Lib.hid k
  clear h k
  go_enter Try.func27, Try.ntmps27
  go_wp2_with fail
  go_loopg [5] l.length (fun n s5 wr => ∃ i : Nat, i ≤ l.length ∧ i ≤ m.length ∧ n = l.length - i ∧ s5 = .int .i64 i ∧ Hid (cmpI l m = cmpI (l.drop i) (m.drop i) ∧ ∃ q, wr = w.drewN q))
  case atStart => exact ⟨0, Nat.zero_le _, Nat.zero_le _, rfl, rfl, rfl, 0, rfl⟩
  case round =>
    obtain ⟨i, h1, h2, rfl, rfl, HR⟩ := hrel
    by_cases c1 : i < l.length
    · by_cases c2 : i < m.length
      · have b1 : (i : Int) < l.length := by omega
        have b2 : (i : Int) < m.length := by omega
        obtain ⟨p, rfl⟩ : ∃ p, a = some p := by
          cases a with
          | none => have := (HA.out.nil rfl).2; subst this; simp at c1
          | some p => exact ⟨p, rfl⟩
        obtain ⟨q, rfl⟩ : ∃ q, b = some q := by
          cases b with
          | none => have := (HB.out.nil rfl).2; subst this; simp at c2
          | some q => exact ⟨q, rfl⟩
        have e1 := ((HA.out.tch (dq_tch HR.out.2)).cell p rfl i c1).2
        have e2 := ((HB.out.tch (dq_tch HR.out.2)).cell q rfl i c2).2
        have d1 : l.drop i = l.getD i 0 :: l.drop (i + 1) := by rw [List.drop_eq_getElem_cons c1]; simp [List.getD, List.getElem?_eq_getElem c1]
        have d2 : m.drop i = m.getD i 0 :: m.drop (i + 1) := by rw [List.drop_eq_getElem_cons c2]; simp [List.getD, List.getElem?_eq_getElem c2]
        generalize l.getD i 0 = x at *
        generalize m.getD i 0 = y at *
        have hr := HR.out.1
        rw [d1, d2, cmpI_cons] at hr
        have HT := Lib.hid HR.out.2
        clear d1 d2 HR
        by_cases c3 : x = y
        · subst c3
          rw [if_neg (by omega), if_neg (by omega)] at hr
          have H5 := Lib.hid hr
          clear hr c1 c2
          go_wp2_with fail
          go_quiet (fail)
          go_wp2_with fail
          go_roundg (l.length - (i + 1))
          case rel => exact ⟨i + 1, by omega, by omega, rfl, by go_num, H5.out, dq_add HT.out _⟩
          case measure => omega
        · have t0 : (x == y) = false := by simpa using c3
          by_cases c4 : x < y
          · rw [if_pos c4] at hr
            have H5 := Lib.hid hr
            clear hr c1 c2 c3
            go_wp2_with fail
            go_quiet (fail)
            go_wp2_with fail
            go_quiet (fail)
            go_wp2_with fail
            go_ret
            exact ⟨by rw [H5.out]; rfl, dq_add (dq_add HT.out _) _⟩
          · have t1 : decide (x < y) = false := by simpa using c4
            rw [if_neg c4, if_pos (by omega)] at hr
            have H5 := Lib.hid hr
            clear hr c1 c2 c3 c4
            go_wp2_with fail
            go_quiet (fail)
            go_wp2_with fail
            go_quiet (fail)
            go_wp2_with fail
            go_ret
            exact ⟨by rw [H5.out]; rfl, dq_add (dq_add HT.out _) _⟩
      · obtain rfl : i = m.length := by omega
        have hr := HR.out.1
        rw [List.drop_length] at hr
        have hc : cmpI l m = 1 := by
          rw [hr, List.drop_eq_getElem_cons c1]; rfl
        have b1 : (m.length : Int) < l.length := by omega
        have H5 := Lib.hid hc
        have HT := Lib.hid HR.out.2
        clear hr hc HR c1 c2
        go_wp2_with fail
        go_ret
        exact ⟨by rw [H5.out]; rfl, HT.out⟩
    · obtain rfl : i = l.length := by omega
      have hr := HR.out.1
      rw [List.drop_length] at hr
      have HT := Lib.hid HR.out.2
      by_cases c2 : l.length < m.length
      · have hc : cmpI l m = -1 := by
          rw [hr, List.drop_eq_getElem_cons c2]; rfl
        have b1 : (l.length : Int) < m.length := by omega
        have H5 := Lib.hid hc
        clear hr hc HR c1 c2
        go_wp2_with fail
        go_ret
        exact ⟨by rw [H5.out]; rfl, HT.out⟩
      · have e : l.length = m.length := by omega
        have hc : cmpI l m = 0 := by
          rw [hr, e, List.drop_length]; rfl
        have t1 : decide ((l.length : Int) < m.length) = false := by simp; omega
        have t2 : decide ((m.length : Int) < l.length) = false := by simp; omega
        have t3 : decide (l.length < m.length) = false := by simp; omega
        have t4 : decide (m.length < l.length) = false := by simp; omega
        have H5 := Lib.hid hc
        clear hr hc HR c1 c2 e
        go_wp2_with fail
        go_ret
        exact ⟨by rw [H5.out]; rfl, HT.out⟩

theorem spec_Compare_any (l m : List Int) (a b : Option Addr) (c d : Nat) (w : World) (hl : l.length ≤ 2147483647) (hm : m.length ≤ 2147483647) (h : By w l a c) (k : By w m b d) :
    Calls Try.prog 27 #[.slice a l.length c, .slice b m.length d] w fun e w' => e = .returned (.int .i64 (cmpI l m)) ∧ Tch [] w w' :=
  (spec_Compare_q l m a b c d w hl hm h k).mono fun _ _ ⟨he, hq⟩ => ⟨he, dq_tch hq⟩

/-- A bound in memory, by value: there, its key's slice, its version. -/
abbrev bndV (th : Bool) (a : Option Addr) (n c : Nat) (v : Int) : Value := .agg #[.bool th, .slice a n c, .int .u64 v]
def Bo (w : World) (b : Bool) (l : List Int) (a : Option Addr) (c : Nat) (_v : Int) : Prop := By w l a c ∧ (b = true ∨ b = false)

theorem spec_Order_any (k1 k2 : Kv) (a b : Option Addr) (c d : Nat) (w : World) (hl : k1.key.length ≤ 2147483647) (hm : k2.key.length ≤ 2147483647) (h : By w k1.key a c) (k : By w k2.key b d) :
    Calls Try.prog 10 #[.slice a k1.key.length c, .int .u64 k1.ver, .slice b k2.key.length d, .int .u64 k2.ver] w fun e w' => e = .returned (.int .i64 (kcmp k1 k2)) ∧ Tch [] w w' := by
  have HC := Lib.hid (spec_Compare_any k1.key k2.key a b c d w hl hm h k)
  obtain ⟨l, v⟩ := k1
  obtain ⟨m, u⟩ := k2
  simp only at HC
  have hk : kcmp ⟨l, v⟩ ⟨m, u⟩ = if cmpI l m = 0 then sg u v else cmpI l m := rfl
  unfold sg at hk
  generalize cmpI l m = r at *
  clear h k
  by_cases h0 : r = 0
  · have t0 : (r == 0) = true := by simpa using h0
    rw [if_pos h0] at hk
    by_cases h1 : u < v
    · rw [if_pos h1] at hk
      have HK := Lib.hid hk
      clear hk h0
      go_enter Try.func10, Try.ntmps10
      go_wp2_with (go_at_call 27; refine HC.out.mono ?_; rintro e w1 ⟨rfl, t1⟩; have HT := Lib.hid t1; clear t1)
      go_ret
      exact ⟨by rw [HK.out]; rfl, HT.out⟩
    · have t1 : decide (u < v) = false := by simpa using h1
      rw [if_neg h1] at hk
      by_cases h2 : v < u
      · rw [if_pos h2] at hk
        have HK := Lib.hid hk
        clear hk h0 h1
        go_enter Try.func10, Try.ntmps10
        go_wp2_with (go_at_call 27; refine HC.out.mono ?_; rintro e w1 ⟨rfl, t1⟩; have HT := Lib.hid t1; clear t1)
        go_ret
        exact ⟨by rw [HK.out]; rfl, HT.out⟩
      · have t2 : decide (v < u) = false := by simpa using h2
        rw [if_neg h2] at hk
        have HK := Lib.hid hk
        clear hk h0 h1 h2
        go_enter Try.func10, Try.ntmps10
        go_wp2_with (go_at_call 27; refine HC.out.mono ?_; rintro e w1 ⟨rfl, t1⟩; have HT := Lib.hid t1; clear t1)
        go_ret
        exact ⟨by rw [HK.out]; rfl, HT.out⟩
  · have t0 : (r == 0) = false := by simpa using h0
    rw [if_neg h0] at hk
    have HK := Lib.hid hk
    clear hk h0
    go_enter Try.func10, Try.ntmps10
    go_wp2_with (go_at_call 27; refine HC.out.mono ?_; rintro e w1 ⟨rfl, t1⟩; have HT := Lib.hid t1; clear t1)
    go_ret
    exact ⟨by rw [HK.out]; rfl, HT.out⟩

theorem spec_order_any (t1 t2 : Bool) (k1 k2 : Kv) (a b : Option Addr) (c d : Nat) (w : World) (hl : k1.key.length ≤ 2147483647) (hm : k2.key.length ≤ 2147483647) (h : By w k1.key a c) (k : By w k2.key b d) :
    Calls Try.prog 26 #[bndV t1 a k1.key.length c k1.ver, bndV t2 b k2.key.length d k2.ver] w fun e w' => e = .returned (.int .i64 (kcmp k1 k2)) ∧ Tch [] w w' := by
  have T : Tch [] w ((w.alloc (.cells #[.bool t1, .slice a k1.key.length c, .int .u64 k1.ver] 25)).alloc (.cells #[.bool t2, .slice b k2.key.length d, .int .u64 k2.ver] 25)) := ((Tch.refl _ _).alloc _).alloc _
  have HC := Lib.hid (spec_Order_any k1 k2 a b c d _ hl hm (h.tch T) (k.tch T))
  have HT := Lib.hid T
  clear T h k
  go_enter Try.func26, Try.ntmps26
  go_wp2_with (go_at_call 10; refine HC.out.mono ?_; rintro e w1 ⟨rfl, t1⟩; have HT1 := Lib.hid t1; clear t1)
  go_ret
  exact ⟨rfl, HT.out.trans HT1.out⟩

def isB (t : Bool) (n : Nat) : Bool := t && decide (1 ≤ n) && decide (n ≤ 40)

theorem spec_isBound_any (t : Bool) (a : Option Addr) (n c : Nat) (v : Int) (w : World) :
    Calls Try.prog 25 #[bndV t a n c v] w fun e w' => e = .returned (.bool (isB t n)) ∧ Tch [] w w' := by
  have HT := Lib.hid ((Tch.refl [] w).alloc (.cells #[.bool t, .slice a n c, .int .u64 v] 25))
  have hi : isB t n = (t && decide (1 ≤ n) && decide (n ≤ 40)) := rfl
  cases t with
  | false =>
    have HI := Lib.hid (show isB false n = false from rfl)
    clear hi
    go_enter Try.func25, Try.ntmps25
    go_wp2
    go_ret
    exact ⟨by rw [HI.out]; rfl, HT.out⟩
  | true =>
    by_cases h1 : 1 ≤ n
    · have b1 : (1 : Int) ≤ n := by omega
      by_cases h2 : n ≤ 40
      · have b2 : (n : Int) ≤ 40 := by omega
        have HI := Lib.hid (show isB true n = true by rw [hi]; simp [h1, h2])
        clear hi h1 h2
        go_enter Try.func25, Try.ntmps25
        go_wp2
        go_ret
        exact ⟨by rw [HI.out]; rfl, HT.out⟩
      · have b2 : decide ((n : Int) ≤ 40) = false := by simp; omega
        have HI := Lib.hid (show isB true n = false by rw [hi]; simp [h2])
        clear hi h1 h2
        go_enter Try.func25, Try.ntmps25
        go_wp2
        go_ret
        exact ⟨by rw [HI.out]; rfl, HT.out⟩
    · have b2 : decide ((1 : Int) ≤ n) = false := by simp; omega
      have HI := Lib.hid (show isB true n = false by rw [hi]; simp [h1])
      clear hi h1
      go_enter Try.func25, Try.ntmps25
      go_wp2
      go_ret
      exact ⟨by rw [HI.out]; rfl, HT.out⟩

theorem zzFits3_any (t : Bool) (a : Option Addr) (n c : Nat) (v : Int) (w : World) :
    Calls Try.prog 8 #[bndV t a n c v] w fun e w' => e = .returned (.bool (decide (n ≤ 2147483647))) ∧ Tch [] w w' := by
  have HT := Lib.hid ((Tch.refl [] w).alloc (.cells #[.bool t, .slice a n c, .int .u64 v] 25))
  by_cases h : (2147483647 : Int) < n
  · have t0 : decide ((2147483647 : Int) < n) = true := by simpa using h
    have HI := Lib.hid (show decide (n ≤ 2147483647) = false by simp; omega)
    clear h
    go_enter Try.func8, Try.ntmps8
    go_wp2
    go_ret
    exact ⟨by rw [HI.out]; rfl, HT.out⟩
  · have t0 : decide ((2147483647 : Int) < n) = false := by simpa using h
    have HI := Lib.hid (show decide (n ≤ 2147483647) = true by simp; omega)
    clear h
    go_enter Try.func8, Try.ntmps8
    go_wp2
    go_ret
    exact ⟨by rw [HI.out]; rfl, HT.out⟩

end Go.Proofs.Ytdofgamahjmohaa
