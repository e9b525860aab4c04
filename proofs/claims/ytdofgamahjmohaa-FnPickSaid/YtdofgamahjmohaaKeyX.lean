/- Keys with versions in memory: how they are written. -/
import Derived.Test.YtdofgamahjmohaaKeyW
namespace Go.Proofs.Ytdofgamahjmohaa
open Go.RowKit
set_option maxRecDepth 100000

def B (l : List Int) : List Value := l.map (Value.int .u8)
theorem B_len (l : List Int) : (B l).length = l.length := by simp [B]

theorem Try.infoB : (Try.prog.info? 5).map (fun i => (i.zero, i.size, i.bytes)) = some (some (.int .u8 0), 1, 1) := by kernel_rfl

/-- A row of bytes of the call's own. -/
abbrev RowB (w : World) (g n c : Nat) (l : List Int) : Prop := w.ownsRow 0 5 1 (.slice (some ⟨g, 0, none⟩) n c) n (B l)

theorem RowB.at {w : World} {g n c : Nat} {l : List Int} (h : RowB w g n c l) {j : Nat} (hj : j < n) : w.cell? ⟨g, j, none⟩ = some (.int .u8 (l.getD j 0)) ∧ w.frozen? ⟨g, j, none⟩ = false := by
  have hl : n = l.length := by have := h.1; rw [B_len] at this; omega
  refine ⟨?_, h.frozenAt j⟩
  rw [h.cellAt j (by omega), B, List.getElem?_map, List.getElem?_eq_getElem (by omega)]
  simp [List.getD, List.getElem?_eq_getElem (show j < l.length by omega)]

theorem RowB.by {w : World} {g n c : Nat} {l : List Int} (h : RowB w g n c l) (hu : ∀ x ∈ l, 0 ≤ x ∧ x < 256) : By w l (some ⟨g, 0, none⟩) c := by
  have hl : n = l.length := by have := h.1; rw [B_len] at this; omega
  refine ⟨?_, by simp, fun ad hd j hj => ?_, hu⟩
  · rcases h.2 with ⟨h1, -⟩ | ⟨g', cap, cur, h1, -, -, h2, -⟩
    · simp at h1
    · simp only [Value.slice.injEq] at h1; omega
  · simp only [Option.some.injEq] at hd
    subst hd
    refine ⟨own_lt h rfl, ?_⟩
    have ha : (⟨g, 0, none⟩ : Addr).add j = ⟨g, j, none⟩ := by unfold Addr.add; split <;> simp_all
    rw [ha]; exact (h.at (by omega)).1

/-- Some are written from a place on. -/
def putAt (l : List Int) (o : Nat) (z : List Int) : List Int := l.take o ++ z ++ l.drop (o + z.length)

theorem set_two (u v p q : Value) (r : List Value) : ∀ X : List Value, ((X ++ p :: q :: r).set X.length u).set (X.length + 1) v = X ++ u :: v :: r
  | [] => rfl
  | x :: X => by
    have := set_two u v p q r X
    simp only [List.cons_append, List.length_cons, List.set_cons_succ, this]

theorem putAt_two {l : List Int} {o : Nat} {x y : Int} (h : o + 2 ≤ l.length) : ((B l).set o (.int .u8 x)).set (o + 1) (.int .u8 y) = B (putAt l o [x, y]) := by
  have e : l = l.take o ++ (l[o] :: l[o + 1] :: l.drop (o + 2)) := by
    rw [← List.drop_eq_getElem_cons, ← List.drop_eq_getElem_cons, List.take_append_drop]
  have hX : (B (l.take o)).length = o := by rw [B_len, List.length_take]; omega
  have h2 := set_two (.int .u8 x) (.int .u8 y) (.int .u8 l[o]) (.int .u8 l[o + 1]) (B (l.drop (o + 2))) (B (l.take o))
  rw [hX] at h2
  have h3 : B l = B (l.take o) ++ Value.int .u8 l[o] :: Value.int .u8 l[o + 1] :: B (l.drop (o + 2)) := by
    conv => lhs; rw [e]
    unfold B
    rw [List.map_append]
    rfl
  have h4 : putAt l o [x, y] = l.take o ++ x :: y :: l.drop (o + 2) := by simp [putAt]
  rw [h3, h2, h4]
  unfold B
  rw [List.map_append]
  rfl

theorem putAt_app {l : List Int} {o : Nat} {x y : List Int} (h : o + x.length + y.length ≤ l.length) : putAt (putAt l o x) (o + x.length) y = putAt l o (x ++ y) := by
  unfold putAt
  have h1 : (l.take o).length = o := by rw [List.length_take]; omega
  have e1 : (l.take o ++ x ++ l.drop (o + x.length)).take (o + x.length) = l.take o ++ x := by
    rw [List.take_append_of_le_length (by rw [List.length_append, h1]; omega)]
    exact List.take_of_length_le (by rw [List.length_append, h1]; omega)
  have e2 : (l.take o ++ x ++ l.drop (o + x.length)).drop (o + x.length + y.length) = l.drop (o + (x ++ y).length) := by
    rw [List.drop_append, List.drop_of_length_le (by rw [List.length_append, h1]; omega), List.nil_append, List.drop_drop, List.length_append, h1, List.length_append]
    congr 1; omega
  rw [e1, e2, List.append_assoc (l.take o)]

theorem putAt_len {l : List Int} {o : Nat} {x : List Int} (h : o + x.length ≤ l.length) : (putAt l o x).length = l.length := by
  unfold putAt; simp; omega

def Put (w : World) (g m c : Nat) (l : List Int) (o : Nat) (z : List Int) (e : Ending) (w' : World) : Prop := e = .returned (.tuple #[]) ∧ RowB w' g m c (putAt l o z) ∧ Tch [g] w w'

set_option maxHeartbeats 1000000 in
theorem put16_any (g m c o n d : Nat) (l : List Int) (v : Int) (w : World) (h : RowB w g m c l) (hn : 2 ≤ n) (ho : o + n ≤ m) (hv : 0 ≤ v) (hv2 : v < 65536) :
    Calls Try.prog 75 #[.slice (some ⟨g, o, none⟩) n d, .int .u16 v] w (Put w g m c l o (be16 v)) := by
  have hl : m = l.length := by have := h.1; rw [B_len] at this; omega
  have c0 := (h.at (j := o) (by omega)).1
  have f0 := (h.at (j := o) (by omega)).2
  have c1 := (h.at (j := o + 1) (by omega)).1
  have f1 := (h.at (j := o + 1) (by omega)).2
  have hgl := own_lt h (k := g) rfl
  have b0 : (0 : Int) < n := by omega
  have b1 : (1 : Int) < n := by omega
  have K : RowB ((w.setCell ⟨g, o, none⟩ (.int .u8 (v / 256))).setCell ⟨g, o + 1, none⟩ (.int .u8 (v % 256))) g m c (putAt l o (be16 v)) := by
    have h1 := (h.stored o (.int .u8 (v / 256))).1
    have h2 := (h1.stored (o + 1) (.int .u8 (v % 256))).1
    rw [putAt_two (by omega)] at h2
    exact h2
  have T : Tch [g] w ((w.setCell ⟨g, o, none⟩ (.int .u8 (v / 256))).setCell ⟨g, o + 1, none⟩ (.int .u8 (v % 256))) := ((Tch.refl _ _).setCell (p := ⟨g, o, none⟩) (fun _ => by simp) _).setCell (p := ⟨g, o + 1, none⟩) (fun _ => by simp) _
  have HK := Lib.hid K
  have HT := Lib.hid T
  clear K T h hl
  go_enter Try.func75, Try.ntmps75
  go_wp2
  go_end0
  exact ⟨rfl, HK.out, HT.out⟩

theorem wrap16 (n : Int) : IntKind.u16.wrap n = n % 65536 := by simp [IntKind.wrap, IntKind.bits, IntKind.signed]
theorem wrap32 (n : Int) : IntKind.u32.wrap n = n % 4294967296 := by simp [IntKind.wrap, IntKind.bits, IntKind.signed]

theorem Put.join {w w1 w2 : World} {g m c o : Nat} {l x y : List Int} {e1 e2 : Ending} (h1 : Put w g m c l o x e1 w1) (h2 : Put w1 g m c (putAt l o x) (o + x.length) y e2 w2) (hl : o + x.length + y.length ≤ l.length) : Put w g m c l o (x ++ y) e2 w2 :=
  ⟨h2.1, by rw [← putAt_app hl]; exact h2.2.1, h1.2.2.trans h2.2.2⟩

set_option maxHeartbeats 1000000 in
theorem put32_any (g m c o n d : Nat) (l : List Int) (v : Int) (w : World) (h : RowB w g m c l) (hn : 4 ≤ n) (hd : n ≤ d) (ho : o + n ≤ m) (hv : 0 ≤ v) (hv2 : v < 4294967296) :
    Calls Try.prog 63 #[.slice (some ⟨g, o, none⟩) n d, .int .u32 v] w (Put w g m c l o (be32 v)) := by
  have hl : m = l.length := by have := h.1; rw [B_len] at this; omega
  have HC := Lib.hid (put16_any g m c o n d l (v / 65536) w h (by omega) ho (by omega) (by omega))
  have HC2 := Lib.hid (fun (w1 : World) (h1 : Put w g m c l o (be16 (v / 65536)) (.returned (.tuple #[])) w1) (d' : Nat) => put16_any g m c (o + 2) 2 d' (putAt l o (be16 (v / 65536))) (v % 65536) w1 h1.2.1 (by omega) (by omega) (by omega) (by omega))
  have HL := Lib.hid (show o + 2 + 2 ≤ l.length by omega)
  clear h hl
  have b0 : (4 : Int) ≤ d := by omega
  have hw : IntKind.u16.wrap v = v % 65536 := wrap16 v
  go_enter Try.func63, Try.ntmps63
  go_wp2_with fail
  refine HC.out.mono ?_
  rintro e w1 ⟨rfl, k1, k2⟩
  have H1 : Hid (Put w g m c l o (be16 (v / 65536)) (.returned (.tuple #[])) w1) := ⟨rfl, k1, k2⟩
  clear k1 k2
  go_wp2_with fail
  refine (HC2.out w1 H1.out _).mono ?_
  rintro e w2 ⟨rfl, k1, k2⟩
  have H2 : Hid (Put w1 g m c (putAt l o (be16 (v / 65536))) (o + 2) (be16 (v % 65536)) (.returned (.tuple #[])) w2) := ⟨rfl, k1, k2⟩
  clear k1 k2
  go_wp2_with fail
  go_end0
  exact H1.out.join (x := be16 (v / 65536)) (y := be16 (v % 65536)) H2.out HL.out

set_option maxHeartbeats 1000000 in
theorem put64_any (g m c o n d : Nat) (l : List Int) (v : Int) (w : World) (h : RowB w g m c l) (hn : 8 ≤ n) (hd : n ≤ d) (ho : o + n ≤ m) (hv : 0 ≤ v) (hv2 : v ≤ 18446744073709551615) :
    Calls Try.prog 51 #[.slice (some ⟨g, o, none⟩) n d, .int .u64 v] w (Put w g m c l o (be64 v)) := by
  have hl : m = l.length := by have := h.1; rw [B_len] at this; omega
  have HC := Lib.hid (put32_any g m c o n d l (v / 4294967296) w h (by omega) hd ho (by omega) (by omega))
  have HC2 := Lib.hid (fun (w1 : World) (h1 : Put w g m c l o (be32 (v / 4294967296)) (.returned (.tuple #[])) w1) => put32_any g m c (o + 4) 4 (d - 4) (putAt l o (be32 (v / 4294967296))) (v % 4294967296) w1 h1.2.1 (by omega) (by omega) (by omega) (by omega) (by omega))
  have HL := Lib.hid (show o + 4 + 4 ≤ l.length by omega)
  clear h hl
  have b0 : (8 : Int) ≤ d := by omega
  have hw : IntKind.u32.wrap v = v % 4294967296 := wrap32 v
  go_enter Try.func51, Try.ntmps51
  go_wp2_with fail
  refine HC.out.mono ?_
  rintro e w1 ⟨rfl, k1, k2⟩
  have H1 : Hid (Put w g m c l o (be32 (v / 4294967296)) (.returned (.tuple #[])) w1) := ⟨rfl, k1, k2⟩
  clear k1 k2
  go_wp2_with fail
  refine (HC2.out w1 H1.out).mono ?_
  rintro e w2 ⟨rfl, k1, k2⟩
  have H2 : Hid (Put w1 g m c (putAt l o (be32 (v / 4294967296))) (o + 4) (be32 (v % 4294967296)) (.returned (.tuple #[])) w2) := ⟨rfl, k1, k2⟩
  clear k1 k2
  go_wp2_with fail
  go_end0
  exact H1.out.join (x := be32 (v / 4294967296)) (y := be32 (v % 4294967296)) H2.out HL.out

end Go.Proofs.Ytdofgamahjmohaa
