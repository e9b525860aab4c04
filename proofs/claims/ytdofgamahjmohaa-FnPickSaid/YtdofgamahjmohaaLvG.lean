/- The guards' first part: levels fit. -/
import Derived.Test.YtdofgamahjmohaaLvO
import Derived.Test.YtdofgamahjmohaaMeetsW
namespace Go.Proofs.Ytdofgamahjmohaa
open Go.RowKit
set_option maxRecDepth 100000

def Guard (w : World) (P : Prop) (e : Ending) (w' : World) : Prop := ∃ b : Bool, e = .returned (.bool b) ∧ (b = true → P) ∧ Tch [] w w'

abbrev tbA (num : Int) (t1 : Bool) (a1 : Option Addr) (n1 c1 : Nat) (v1 : Int) (t2 : Bool) (a2 : Option Addr) (n2 c2 : Nat) (v2 : Int) (bytes ver stale age : Int) : Array Value :=
  #[.int .u64 num, .bool t1, .slice a1 n1 c1, .int .u64 v1, .bool t2, .slice a2 n2 c2, .int .u64 v2, .int .i64 bytes, .int .u64 ver, .int .u32 stale, .int .i64 age]
theorem tb_cells {w : World} {b : Nat} {num : Int} {t1 : Bool} {a1 : Option Addr} {n1 c1 : Nat} {v1 : Int} {t2 : Bool} {a2 : Option Addr} {n2 c2 : Nat} {v2 : Int} {bytes ver stale age : Int}
    (h : w.heap[b]? = some (.cells (tbA num t1 a1 n1 c1 v1 t2 a2 n2 c2 v2 bytes ver stale age) 44 (0, 0))) :
    (w.cell? ⟨b, 0, none⟩ = some (.int .u64 num) ∧ w.cell? ⟨b, 1, none⟩ = some (.bool t1) ∧ w.cell? ⟨b, 2, none⟩ = some (.slice a1 n1 c1) ∧ w.cell? ⟨b, 3, none⟩ = some (.int .u64 v1) ∧
     w.cell? ⟨b, 4, none⟩ = some (.bool t2) ∧ w.cell? ⟨b, 5, none⟩ = some (.slice a2 n2 c2) ∧ w.cell? ⟨b, 6, none⟩ = some (.int .u64 v2)) ∧
    (w.cell? ⟨b, 7, none⟩ = some (.int .i64 bytes) ∧ w.cell? ⟨b, 8, none⟩ = some (.int .u64 ver) ∧ w.cell? ⟨b, 9, none⟩ = some (.int .u32 stale) ∧ w.cell? ⟨b, 10, none⟩ = some (.int .i64 age)) := by
  refine ⟨⟨?_, ?_, ?_, ?_, ?_, ?_, ?_⟩, ?_, ?_, ?_, ?_⟩
  all_goals (rw [cell_of_row w _ _ _ 44 (0, 0) h]; rfl)

set_option maxHeartbeats 1000000 in
theorem fits2_any (num : Int) (t1 : Bool) (a1 : Option Addr) (n1 c1 : Nat) (v1 : Int) (t2 : Bool) (a2 : Option Addr) (n2 c2 : Nat) (v2 : Int) (bytes ver stale age : Int) (w : World) :
    Calls Try.prog 36 #[.agg (tbA num t1 a1 n1 c1 v1 t2 a2 n2 c2 v2 bytes ver stale age)] w (Guard w (n1 ≤ 2147483647 ∧ n2 ≤ 2147483647)) := by
  have T := (Tch.refl [] w).alloc (.cells (tbA num t1 a1 n1 c1 v1 t2 a2 n2 c2 v2 bytes ver stale age) 44)
  have hb : (w.alloc (.cells (tbA num t1 a1 n1 c1 v1 t2 a2 n2 c2 v2 bytes ver stale age) 44)).heap[w.heap.size]? = some (.cells (tbA num t1 a1 n1 c1 v1 t2 a2 n2 c2 v2 bytes ver stale age) 44 (0, 0)) := by rw [heap_get_alloc, if_pos rfl]
  have HC := Lib.hid (fun (w' : World) (t : Tch [] (w.alloc (.cells (tbA num t1 a1 n1 c1 v1 t2 a2 n2 c2 v2 bytes ver stale age) 44)) w') => (tb_cells (t.obj hb (by simp))).1)
  have HF1 := Lib.hid (fun w' => zzFits3_any t1 a1 n1 c1 v1 w')
  have HF2 := Lib.hid (fun w' => zzFits3_any t2 a2 n2 c2 v2 w')
  have h1 : ∀ n : Nat, (decide (n ≤ 2147483647) = true) → n ≤ 2147483647 := fun n h => by simpa using h
  have H1 := Lib.hid (h1 n1)
  have H2 := Lib.hid (h1 n2)
  generalize decide (n1 ≤ 2147483647) = i1 at *
  generalize decide (n2 ≤ 2147483647) = i2 at *
  have HT := Lib.hid T
  clear T hb h1
  go_enter Try.func36, Try.ntmps36
  go_wp2_with fail
  refine (HF1.out _).mono ?_
  rintro e w1 ⟨rfl, t⟩
  obtain ⟨x0, x1, x2, x3, x4, x5, x6⟩ := HC.out w1 t
  have HT1 := Lib.hid t
  clear t
  cases i1 with
  | false =>
    go_wp2_with fail
    go_ret
    exact ⟨false, rfl, by simp, HT.out.trans HT1.out⟩
  | true =>
    go_wp2_with fail
    refine (HF2.out _).mono ?_
    rintro e w2 ⟨rfl, t⟩
    have HT2 := Lib.hid (HT1.out.trans t)
    clear x0 x1 x2 x3 x4 x5 x6 t
    cases i2 with
    | false =>
      go_wp2_with fail
      go_ret
      exact ⟨false, rfl, by simp, HT.out.trans HT2.out⟩
    | true =>
      go_wp2_with fail
      go_ret
      exact ⟨true, rfl, fun _ => ⟨H1.out trivial, H2.out trivial⟩, HT.out.trans HT2.out⟩

/-- A table of levels, its keys short. -/
def Tb.short (t : Tb) : Prop := t.k1.key.length ≤ 2147483647 ∧ t.k2.key.length ≤ 2147483647

set_option maxHeartbeats 1000000 in
theorem fits1_any (ts : List Tb) (ta : Option Addr) (c : Nat) (w : World) (h : TabsAt w ts ta c) :
    Calls Try.prog 16 #[.slice ta ts.length c] w (Guard w (ts.length ≤ 2147483647 ∧ ∀ t ∈ ts, t.short)) := by
  have HST := Lib.hid h
  have HT0 := Lib.hid (Tch.refl [] w)
  clear h
  by_cases hbig : (2147483647 : Int) < ts.length
  · have t0 : decide ((2147483647 : Int) < ts.length) = true := by simpa using hbig
    clear hbig
    go_enter Try.func16, Try.ntmps16
    go_wp2
    go_ret
    exact ⟨false, rfl, by simp, HT0.out⟩
  have t0 : decide ((2147483647 : Int) < ts.length) = false := by simpa using hbig
  have hb2 : (ts.length : Int) ≤ 2147483647 := by omega
  clear hbig
  go_enter Try.func16, Try.ntmps16
  go_wp2_with fail
  go_loopg [10] ts.length (fun n s10 wr => ∃ k : Nat, k ≤ ts.length ∧ n = ts.length - k ∧ s10 = .int .i64 k ∧ Hid ((∀ i, i < k → (ts.getD i default).short) ∧ Tch [] w wr))
  case atStart => exact ⟨0, Nat.zero_le _, rfl, rfl, fun i hi => absurd hi (Nat.not_lt_zero i), HT0.out⟩
  case round =>
    obtain ⟨k, hk, rfl, rfl, HR⟩ := hrel
    by_cases hlt : k < ts.length
    · have hlt2 : (k : Int) < ts.length := by omega
      cases ta with
      | none => have h0 := (HST.out.nil rfl).2; rw [h0] at hlt; exact absurd hlt (by simp)
      | some a =>
      obtain ⟨a1, c1, a2, c2, hc⟩ := HST.out.at' a rfl k hlt
      have hc := hc.tch HR.out.2
      generalize hp : ts.getD k default = p at *
      obtain ⟨num, t1, ⟨l1, v1⟩, t2, ⟨l2, v2⟩, bytes, ver, stale, age⟩ := p
      have x0 : wr.cell? (a.add (k * 11)) = some (.int .u64 num) := hc.x0
      have x1 : wr.cell? ⟨(a.add (k * 11)).block, (a.add (k * 11)).off + 1, none⟩ = some (.bool t1) := hc.x1
      have x2 : wr.cell? ⟨(a.add (k * 11)).block, (a.add (k * 11)).off + 2, none⟩ = some (.slice a1 l1.length c1) := hc.x2
      have x3 : wr.cell? ⟨(a.add (k * 11)).block, (a.add (k * 11)).off + 3, none⟩ = some (.int .u64 v1) := hc.x3
      have x4 : wr.cell? ⟨(a.add (k * 11)).block, (a.add (k * 11)).off + 4, none⟩ = some (.bool t2) := hc.x4
      have x5 : wr.cell? ⟨(a.add (k * 11)).block, (a.add (k * 11)).off + 5, none⟩ = some (.slice a2 l2.length c2) := hc.x5
      have x6 : wr.cell? ⟨(a.add (k * 11)).block, (a.add (k * 11)).off + 6, none⟩ = some (.int .u64 v2) := hc.x6
      have x7 : wr.cell? ⟨(a.add (k * 11)).block, (a.add (k * 11)).off + 7, none⟩ = some (.int .i64 bytes) := hc.x7
      have x8 : wr.cell? ⟨(a.add (k * 11)).block, (a.add (k * 11)).off + 8, none⟩ = some (.int .u64 ver) := hc.x8
      have x9 : wr.cell? ⟨(a.add (k * 11)).block, (a.add (k * 11)).off + 9, none⟩ = some (.int .u32 stale) := hc.x9
      have x10 : wr.cell? ⟨(a.add (k * 11)).block, (a.add (k * 11)).off + 10, none⟩ = some (.int .i64 age) := hc.x10
      have HP := Lib.hid hp
      clear hp hc
      go_wp2_with (go_at_call 36; refine (fits2_any _ _ _ _ _ _ _ _ _ _ _ _ _ _ _ _).mono ?_; rintro e w5 ⟨b, rfl, h1, h2⟩; have H1 := Lib.hid h1; have H2 := Lib.hid h2; clear h1 h2; cases b)
      all_goals first
        | (go_ret; exact ⟨false, rfl, by simp, (HR.out.2.trans ((Tch.refl _ _).alloc _)).trans H2.out⟩)
        | (go_roundg (ts.length - (k + 1)))
      case rel =>
        refine ⟨k + 1, by omega, rfl, by go_num, fun i hi => ?_, (HR.out.2.trans ((Tch.refl _ _).alloc _)).trans H2.out⟩
        by_cases e : i = k
        · rw [e, HP.out]
          exact H1.out trivial
        · exact HR.out.1 i (by omega)
      case measure => omega
    · obtain rfl : k = ts.length := by omega
      have HN := Lib.hid (show ts.length ≤ 2147483647 by omega)
      clear hlt hk HST
      go_wp2_with fail
      go_ret
      refine ⟨true, rfl, fun _ => ⟨HN.out, fun t ht => ?_⟩, HR.out.2⟩
      obtain ⟨j, hj, rfl⟩ := List.mem_iff_getElem.1 ht
      have := HR.out.1 j hj
      simpa [List.getD, hj] using this

theorem mem_getD {α : Type} [Inhabited α] {P : α → Prop} {l : List α} (d : α) (h : ∀ j, j < l.length → P (l.getD j d)) : ∀ t ∈ l, P t := by
  intro t ht
  obtain ⟨j, hj, rfl⟩ := List.mem_iff_getElem.1 ht
  have := h j hj
  simpa [List.getD, hj] using this

set_option maxHeartbeats 1000000 in
theorem fits4_any (LL : List (List Tb)) (la : Option Addr) (c : Nat) (w : World) (h : LvAt w LL la c) :
    Calls Try.prog 12 #[.slice la LL.length c] w (Guard w (LL.length ≤ 2147483647 ∧ ∀ ts ∈ LL, ts.length ≤ 2147483647 ∧ ∀ t ∈ ts, t.short)) := by
  have HST := Lib.hid h
  have HT0 := Lib.hid (Tch.refl [] w)
  clear h
  by_cases hbig : (2147483647 : Int) < LL.length
  · have t0 : decide ((2147483647 : Int) < LL.length) = true := by simpa using hbig
    clear hbig
    go_enter Try.func12, Try.ntmps12
    go_wp2
    go_ret
    exact ⟨false, rfl, by simp, HT0.out⟩
  have t0 : decide ((2147483647 : Int) < LL.length) = false := by simpa using hbig
  have hb2 : (LL.length : Int) ≤ 2147483647 := by omega
  clear hbig
  go_enter Try.func12, Try.ntmps12
  go_wp2_with fail
  go_loopg [10] LL.length (fun n s10 wr => ∃ k : Nat, k ≤ LL.length ∧ n = LL.length - k ∧ s10 = .int .i64 k ∧ Hid ((∀ i, i < k → (LL.getD i []).length ≤ 2147483647 ∧ ∀ t ∈ LL.getD i [], t.short) ∧ Tch [] w wr))
  case atStart => exact ⟨0, Nat.zero_le _, rfl, rfl, fun i hi => absurd hi (Nat.not_lt_zero i), HT0.out⟩
  case round =>
    obtain ⟨k, hk, rfl, rfl, HR⟩ := hrel
    by_cases hlt : k < LL.length
    · have hlt2 : (k : Int) < LL.length := by omega
      cases la with
      | none => have h0 := (HST.out.nil rfl).2; rw [h0] at hlt; exact absurd hlt (by simp)
      | some a =>
      obtain ⟨-, ta, tc, hc, hts⟩ := (HST.out.tch HR.out.2).at' a rfl k hlt
      have HF := Lib.hid (fits1_any _ ta tc wr hts)
      generalize hp : LL.getD k [] = p at *
      have HP := Lib.hid hp
      clear hp hts
      go_wp2_with (go_at_call 16; refine HF.out.mono ?_; rintro e w5 ⟨b, rfl, h1, h2⟩; have H1 := Lib.hid h1; have H2 := Lib.hid h2; clear h1 h2; cases b)
      all_goals first
        | (go_ret; exact ⟨false, rfl, by simp, HR.out.2.trans H2.out⟩)
        | (go_roundg (LL.length - (k + 1)))
      case rel =>
        refine ⟨k + 1, by omega, rfl, by go_num, fun i hi => ?_, HR.out.2.trans H2.out⟩
        by_cases e : i = k
        · rw [e, HP.out]
          exact H1.out trivial
        · exact HR.out.1 i (by omega)
      case measure => omega
    · obtain rfl : k = LL.length := by omega
      have HN := Lib.hid (show LL.length ≤ 2147483647 by omega)
      clear hlt hk HST
      go_wp2_with fail
      go_ret
      exact ⟨true, rfl, fun _ => ⟨HN.out, mem_getD [] HR.out.1⟩, HR.out.2⟩

end Go.Proofs.Ytdofgamahjmohaa
