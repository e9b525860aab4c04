/- Keys with versions in memory: how they are made. -/
import Derived.Test.YtdofgamahjmohaaKeyX
import Derived.Laws.CopyOwn
namespace Go.Proofs.Ytdofgamahjmohaa
open Go.RowKit
set_option maxRecDepth 100000

theorem Tch.of_below {n : Nat} {w w' : World} (h : Below n w w') (hn : w.heap.size ≤ n) : Tch [] w w' := ⟨h.os, h.output, h.size, fun k hk _ => h.block k (Nat.lt_of_lt_of_le hk hn)⟩

theorem row_of_heap {w : World} {g : Nat} {l : List Int} (h : w.heap[g]? = some (.cells (B l).toArray 5 (0, 0))) (hl : l.length ≤ maxLen) : RowB w g l.length l.length l :=
  ⟨by rw [B_len]; omega, .inr ⟨g, l.length, (B l).toArray, rfl, Nat.zero_le _, h, Nat.le_refl _, hl, by simp [B_len], by rw [List.take_of_length_le (by simp [B_len])]⟩⟩

theorem make_bytes (w : World) (n : Nat) (hn : n ≤ 2147483700) :
    ∃ v w', (Instr.makeSlice 22 (.int .i64 (n : Int)) (.int .i64 (n : Int))).run Try.prog w = .ok v w' ∧ v = .slice (some ⟨w.heap.size, 0, none⟩) n n ∧ w'.heap[w.heap.size]? = some (.cells (B (List.replicate n 0)).toArray 5 (0, 0)) ∧ Below w.heap.size w w' := by
  obtain ⟨i0, hi, hz0, hz1, hz2⟩ := info_parts Try.infoB
  have h := run_make (P := Try.prog) w 22 5 i0 (.int .u8 0) Try.underlying22 hi hz0 .i64 .i64 (n : Int) (n : Int) (by omega) (Int.le_refl _) (by rw [hz2]; omega) (by omega)
  simp only [Int.toNat_natCast, hz1, Nat.mul_one] at h
  refine ⟨_, _, h, rfl, ?_, (Below.refl _ _).alloc (Nat.le_refl _) _⟩
  have e : madeCells (Value.int .u8 0).cells n = (B (List.replicate n 0)).toArray := by
    apply Array.ext'
    show (madeCells #[Value.int .u8 0] n).toList = _
    rw [toList_madeCells_one]
    simp [B]
  rw [e]
  exact heap_alloc_new w _

theorem splice_key (l : List Int) : splice (B (List.replicate (l.length + 8) 0)) 0 (B l) = B (l ++ List.replicate 8 0) := by
  unfold splice B
  rw [List.take_zero, List.nil_append, List.map_append, Nat.zero_add, List.length_map, ← List.map_drop, List.drop_replicate, Nat.add_sub_cancel_left]

theorem putAt_key (l z : List Int) (h : z.length = 8) : putAt (l ++ List.replicate 8 0) l.length z = l ++ z := by
  unfold putAt
  rw [List.take_left', List.drop_of_length_le (by simp; omega), List.append_nil]
  rfl

theorem copy_src {w w1 : World} {l : List Int} {a : Option Addr} {c g : Nat} (h : By w l a c) (t : Tch [] w w1) :
    0 < (B l).length → some (⟨g, 0, none⟩ : Addr) = some ⟨g, 0, none⟩ ∧ ∃ ad, a = some ad ∧ ∀ j v, (B l)[j]? = some v → w1.cell? (ad.add j) = some v := by
  intro h0
  rw [B_len] at h0
  refine ⟨rfl, ?_⟩
  cases a with
  | none => obtain ⟨-, rfl⟩ := h.nil rfl; simp at h0
  | some ad =>
    refine ⟨ad, rfl, fun j v hj => ?_⟩
    rw [B, List.getElem?_map, Option.map_eq_some_iff] at hj
    obtain ⟨x, hx, rfl⟩ := hj
    have := ((h.tch t).cell ad rfl j (List.getElem?_eq_some_iff.1 hx).1).2
    rw [this, getD_get hx]

def KeyOut (w : World) (k : Kv) (e : Ending) (w' : World) : Prop :=
  ∃ g, e = .returned (.slice (some ⟨g, 0, none⟩) (k.key.length + 8) (k.key.length + 8)) ∧ RowB w' g (k.key.length + 8) (k.key.length + 8) (kb k) ∧ w.heap.size ≤ g ∧ Tch [] w w'

set_option maxHeartbeats 1000000 in
theorem keyWithTs_any (k : Kv) (a : Option Addr) (c : Nat) (w : World) (hl : k.key.length ≤ 2147483647) (hv : okV k.ver) (h : By w k.key a c) :
    Calls Try.prog 42 #[.slice a k.key.length c, .int .u64 k.ver] w (KeyOut w k) := by
  obtain ⟨l, v⟩ := k
  obtain ⟨v0, v1⟩ := hv
  simp only at v0 v1 hl h ⊢
  have hmk := make_bytes w (l.length + 8) (by omega)
  rw [show ((l.length + 8 : Nat) : Int) = (l.length : Int) + 8 by omega] at hmk
  have HMK := Lib.hid hmk
  have HCS := Lib.hid (fun (w1 : World) (t : Below w.heap.size w w1) => copy_src (g := w.heap.size) h (Tch.of_below t (Nat.le_refl _)))
  have HN := Lib.hid (show (B l).length = Nat.min l.length (l.length + 8) by rw [B_len]; exact (Nat.min_eq_left (by omega)).symm)
  have HF := Lib.hid (show 0 + (B l).length ≤ (B (List.replicate (l.length + 8) 0)).length by rw [B_len, B_len, List.length_replicate]; omega)
  have HO := Lib.hid (show ∀ v ∈ B l, v.oneCell' = true by intro v hv; obtain ⟨x, -, rfl⟩ := List.mem_map.1 hv; rfl)
  have HP := Lib.hid (fun (w2 : World) (hg : w2.heap[w.heap.size]? = some (.cells (splice (B (List.replicate (l.length + 8) 0)) 0 (B l)).toArray 5 (0, 0))) =>
    put64_any w.heap.size (l.length + 8) (l.length + 8) l.length 8 8 (l ++ List.replicate 8 0) (18446744073709551615 - v) w2
      (by rw [splice_key] at hg; have := row_of_heap hg (by simp; unfold maxLen; omega); simpa using this) (Nat.le_refl _) (Nat.le_refl _) (Nat.le_refl _) (by omega) (by omega))
  clear hmk h
  go_enter Try.func42, Try.ntmps42
  go_wp2_with (first | (refine wpList_make_run rfl (.tmp 8) (.tmp 8) 22 rfl (.int .i64 ((l.length : Int) + 8)) (.int .i64 ((l.length : Int) + 8)) (by simp [Act.eval]) (by simp [Act.eval]) _ HMK.out ?_; rintro vv w1 ⟨rfl, q1, q2⟩; have HQ1 := Lib.hid q1; have HQ2 := Lib.hid q2; clear q1 q2) | (with_reducible refine wpList_copy_splice rfl (.tmp 10) (.tmp 11) 22 22 rfl 5 Try.underlying22 (by kernel_rfl) (some ⟨w.heap.size, 0, none⟩) a (l.length + 8) (l.length + 8) l.length c (by simp [Act.eval]) (by simp [Act.eval]) w.heap.size 0 (B (List.replicate (l.length + 8) 0)) 5 HQ1.out (B l) HN.out (HCS.out w1 HQ2.out) HF.out HO.out w.heap.size w HQ2.out (Nat.le_refl _) ?_; intro w2 HG2 hb2; have HB2 := Lib.hid hb2; clear hb2))
  refine (HP.out w2 HG2.out).mono ?_
  rintro e w3 ⟨rfl, k1, k2⟩
  rw [putAt_key l _ rfl] at k1
  have HK1 := Lib.hid k1
  have HT3 := Lib.hid ((Tch.of_below HB2.out (Nat.le_refl _)).then k2 (fun i hi hm => absurd (List.mem_singleton.1 hm) (by omega)))
  clear k1 k2
  go_wp2_with fail
  go_ret
  exact ⟨_, rfl, HK1.out, Nat.le_refl _, HT3.out⟩

theorem copy_by (W : World) (hsz : Nat) (hszW : W.heap.size = hsz) (ty : TypeId) (l : List Int) (a : Option Addr) (c : Nat) (h : By W l a c) (hl : l.length ≤ 2147483647) :
    ∃ v w', (Builtin.append_ #[22, 22] ty #[.slice (some ⟨hsz, 0, none⟩) 0 0, .slice a l.length c]).run Try.prog (W.alloc (.cells #[] 5)) = .ok v w' ∧
      ∃ g c', v = .slice (some ⟨g, 0, none⟩) l.length c' ∧ RowB w' g l.length c' l ∧ W.heap.size ≤ g ∧ Tch [] W w' := by
  subst hszW
  obtain ⟨i0, hi, hz0, hz1, hz2⟩ := info_parts Try.infoB
  have hown := row_new (w := W) 5 1
  have t0 : Tch [] W (W.alloc (.cells #[] 5)) := (Tch.refl _ _).alloc _
  cases a with
  | none =>
    obtain ⟨rfl, rfl⟩ := h.nil rfl
    exact ⟨_, _, run_append_owned_none _ 0 22 ty 5 i0 1 Try.underlying22 hi _ 0 [] hown, W.heap.size, 0, rfl, hown, Nat.le_refl _, t0⟩
  | some ad =>
    obtain ⟨v', w', hrun, ho, hg, -, hloc⟩ := run_append_own_at (P := Try.prog) (W.alloc (.cells #[] 5)) 0 22 ty 5 i0 (.int .u8 0) 1 1 Try.underlying22 hi hz0 hz1 hz2 rfl (by decide) _ 0 [] hown ad l.length c (B l) (by simp [B]) (fun j u hu => by
        rw [B, List.getElem?_map, Option.map_eq_some_iff] at hu
        obtain ⟨x, hx, rfl⟩ := hu
        have := ((h.tch t0).cell ad rfl j (List.getElem?_eq_some_iff.1 hx).1).2
        rw [this, getD_get hx]) (by intro u hu; obtain ⟨x, -, rfl⟩ := List.mem_map.1 hu; rfl) (by unfold maxLen; omega) (by omega) (Nat.zero_le _)
    rw [Nat.zero_add, List.nil_append] at ho
    have hb : ∃ g, v'.ownBlock = some g ∧ W.heap.size ≤ g := by
      rcases hloc with e | e
      · exact ⟨_, e, Nat.le_refl _⟩
      · exact ⟨_, e, by simp⟩
    obtain ⟨g, hg1, hg2⟩ := hb
    have hv : ∃ c, v' = .slice (some ⟨g, 0, none⟩) l.length c := by
      rcases ho.2 with ⟨e, -⟩ | ⟨g', cap, cur, e, -⟩
      · rw [e] at hg1; simp [Value.ownBlock] at hg1
      · rw [e] at hg1; simp [Value.ownBlock] at hg1; subst hg1; exact ⟨cap, e⟩
    obtain ⟨c, rfl⟩ := hv
    exact ⟨_, w', hrun, g, c, rfl, ho, hg2, t0.grown hg (fun k hk hlt => by simp [Value.ownBlock] at hk; omega)⟩

def OwnOut (w : World) (l : List Int) (e : Ending) (w' : World) : Prop :=
  ∃ g c, e = .returned (.slice (some ⟨g, 0, none⟩) l.length c) ∧ RowB w' g l.length c l ∧ w.heap.size ≤ g ∧ Tch [] w w'

theorem own_any (l : List Int) (a : Option Addr) (c : Nat) (w : World) (hl : l.length ≤ 2147483647) (h : By w l a c) : Calls Try.prog 43 #[.slice a l.length c] w (OwnOut w l) := by
  have HA := Lib.hid (copy_by w w.heap.size rfl 22 l a c h hl)
  clear h
  go_enter Try.func43, Try.ntmps43
  go_wp2_with (at_builtin; refine wpList_append_run rfl (.tmp 3) (.tmp 4) 22 rfl (.slice (some ⟨w.heap.size, 0, none⟩) 0 0) (.slice a l.length c) (by simp [Act.eval]) (by simp [Act.eval]) _ HA.out ?_; rintro vv w5 ⟨g, c', rfl, q1, q2, q3⟩; have H1 := Lib.hid q1; have H2 := Lib.hid q2; have H3 := Lib.hid q3; clear q1 q2 q3)
  go_ret
  exact ⟨g, c', rfl, H1.out, H2.out, H3.out⟩

set_option maxHeartbeats 1000000 in
theorem bytesOf_any (k : Kv) (a : Option Addr) (c : Nat) (w : World) (hl : k.key.length ≤ 2147483647) (hv : okV k.ver) (h : By w k.key a c) :
    Calls Try.prog 29 #[bndV true a k.key.length c k.ver] w (KeyOut w k) := by
  have HU := Lib.hid h.u8
  have ta : Tch [] w (w.alloc (.cells #[.bool true, .slice a k.key.length c, .int .u64 k.ver] 25)) := (Tch.refl _ _).alloc _
  have HT := Lib.hid ta
  have HO := Lib.hid (fun (w' : World) (t : Tch [] (w.alloc (.cells #[.bool true, .slice a k.key.length c, .int .u64 k.ver] 25)) w') => own_any k.key a c w' hl (h.tch (ta.trans t)))
  have HK := Lib.hid (fun (w' : World) (g c' : Nat) (hr : RowB w' g k.key.length c' k.key) => keyWithTs_any k (some ⟨g, 0, none⟩) c' w' hl hv (hr.by HU.out))
  have hb := heap_alloc_new w (.cells #[.bool true, .slice a k.key.length c, .int .u64 k.ver] 25)
  generalize hW : w.alloc (.cells #[.bool true, .slice a k.key.length c, .int .u64 k.ver] 25) = W at *
  have HBX := Lib.hid (fun (w' : World) (t : Tch [] W w') => t.obj hb (by simp))
  have c0 : W.cell? ⟨w.heap.size, 0, none⟩ = some (.bool true) := by rw [cell_of_row W _ _ _ 25 (0, 0) hb]; rfl
  have c1 : W.cell? ⟨w.heap.size, 1, none⟩ = some (.slice a k.key.length c) := by rw [cell_of_row W _ _ _ 25 (0, 0) hb]; rfl
  have c2 : W.cell? ⟨w.heap.size, 2, none⟩ = some (.int .u64 k.ver) := by rw [cell_of_row W _ _ _ 25 (0, 0) hb]; rfl
  have HW := Lib.hid hW
  clear ta h hb hW
  go_enter Try.func29, Try.ntmps29
  go_upto_region 1 with fail
  rw [HW.out]
  go_wp2_with fail
  go_region_held3 (fun w' => w'.cell? ⟨w.heap.size, 1, none⟩ = some (.slice a k.key.length c) ∧ w'.cell? ⟨w.heap.size, 2, none⟩ = some (.int .u64 k.ver)) (go_keep)
    (first
      | (go_at_call 43; refine (HO.out _ ?_).mono ?_; (repeat (first | exact Tch.refl _ _ | refine Tch.drew ?_)); rintro e w1 ⟨g, c', rfl, q1, q2, q3⟩
         have T1 : Tch [] W w1 := Tch.trans (by repeat (first | exact Tch.refl _ _ | refine Tch.drew ?_)) q3
         have s1 : w1.cell? ⟨w.heap.size, 1, none⟩ = some (.slice a k.key.length c) := (by rw [cell_of_row w1 _ _ _ 25 (0, 0) (HBX.out w1 T1)]; rfl)
         have s2 : w1.cell? ⟨w.heap.size, 2, none⟩ = some (.int .u64 k.ver) := (by rw [cell_of_row w1 _ _ _ 25 (0, 0) (HBX.out w1 T1)]; rfl)
         have HQ1 := Lib.hid q1; have HT1 := Lib.hid T1; clear q1 q2 q3 T1)
      | (go_at_call 42; refine (HK.out _ g c' (by exact HQ1.out)).mono ?_; rintro e w2 ⟨g2, rfl, q1, q2, q3⟩
         have T2 : Tch [] W w2 := HT1.out.trans (Tch.trans (by repeat (first | exact Tch.refl _ _ | refine Tch.drew ?_)) q3)
         have s3 : w2.cell? ⟨w.heap.size, 1, none⟩ = some (.slice a k.key.length c) := (by rw [cell_of_row w2 _ _ _ 25 (0, 0) (HBX.out w2 T2)]; rfl)
         have s4 : w2.cell? ⟨w.heap.size, 2, none⟩ = some (.int .u64 k.ver) := (by rw [cell_of_row w2 _ _ _ 25 (0, 0) (HBX.out w2 T2)]; rfl)
         have HG := Lib.hid q1; have HT2 := Lib.hid T2; have HG2 := Lib.hid (show w.heap.size ≤ g2 from Nat.le_trans (HT.out.trans HT1.out).size q2); clear q1 q2 q3 T2))
  all_goals (go_wp2_with fail; go_ret)
  all_goals exact ⟨g2, rfl, HG.out, HG2.out, HT.out.trans HT2.out⟩

end Go.Proofs.Ytdofgamahjmohaa
