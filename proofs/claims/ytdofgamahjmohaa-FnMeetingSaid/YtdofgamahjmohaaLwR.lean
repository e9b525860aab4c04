/- spec.Meeting. -/
import Derived.Test.YtdofgamahjmohaaLwO
import Derived.BigQuiet
namespace Go.Proofs.Ytdofgamahjmohaa
open Go.RowKit Go.Deep
set_option maxRecDepth 100000

/-- The first place from which p holds. -/
theorem first_from {ts : List Tb} {L : Kv} (ho : ∀ i, i < ts.length → OrdAt false ts i) {k : Nat} (hk : k ≤ ts.length) (h1 : ∀ i, i < k → ¬ kcmp L (ts.getD i default).k2 ≤ 0) (h2 : k = ts.length ∨ kcmp L (ts.getD k default).k2 ≤ 0) : k = mFrom ts L := by
  refine (count_first (p := fun i => decide (kcmp L (ts.getD i default).k2 ≤ 0)) ts.length k hk (fun i hi => decide_eq_false (h1 i hi)) (fun i h3 h4 => ?_)).symm
  rcases h2 with h2 | h2
  · omega
  · exact mono1 ho L k i h3 h4 (decide_eq_true h2)
theorem first_to {ts : List Tb} {R : Kv} (ho : ∀ i, i < ts.length → OrdAt false ts i) {k : Nat} (hk : k ≤ ts.length) (h1 : ∀ i, i < k → ¬ kcmp R (ts.getD i default).k1 < 0) (h2 : k = ts.length ∨ kcmp R (ts.getD k default).k1 < 0) : k = mTo ts R := by
  refine (count_first (p := fun i => decide (kcmp R (ts.getD i default).k1 < 0)) ts.length k hk (fun i hi => decide_eq_false (h1 i hi)) (fun i h3 h4 => ?_)).symm
  rcases h2 with h2 | h2
  · omega
  · exact mono2 ho R k i h3 h4 (decide_eq_true h2)

/-- What the loops look for. -/
def pF (ts : List Tb) (L : Kv) (i : Nat) : Prop := kcmp L (ts.getD i default).k2 ≤ 0
def pT (ts : List Tb) (R : Kv) (i : Nat) : Prop := kcmp R (ts.getD i default).k1 < 0
def Before (p : Nat → Prop) (k : Nat) : Prop := ∀ i, i < k → ¬ p i
def Stop (p : Nat → Prop) (n k : Nat) (bb : Bool) : Prop := if bb = true then k < n ∧ ¬ p k else k = n ∨ p k
theorem Before.zero (p : Nat → Prop) : Before p 0 := fun i hi => absurd hi (Nat.not_lt_zero i)
theorem Before.succ {p : Nat → Prop} {k : Nat} (h : Before p k) (hn : ¬ p k) : Before p (k + 1) := fun i hi => by
  by_cases e : i = k
  · rw [e]; exact hn
  · exact h i (by omega)
theorem Stop.go {p : Nat → Prop} {n k : Nat} (h : k < n) (hn : ¬ p k) : Stop p n k true := by unfold Stop; rw [if_pos rfl]; exact ⟨h, hn⟩
theorem Stop.hit {p : Nat → Prop} {n k : Nat} (hp : p k) : Stop p n k false := by unfold Stop; rw [if_neg (by simp)]; exact .inr hp
theorem Stop.end {p : Nat → Prop} {n : Nat} : Stop p n n false := by unfold Stop; rw [if_neg (by simp)]; exact .inl rfl
theorem Stop.t {p : Nat → Prop} {n k : Nat} (h : Stop p n k true) : k < n ∧ ¬ p k := by unfold Stop at h; rw [if_pos rfl] at h; exact h
theorem Stop.f {p : Nat → Prop} {n k : Nat} (h : Stop p n k false) : k = n ∨ p k := by unfold Stop at h; rw [if_neg (by simp)] at h; exact h

set_option maxHeartbeats 4000000 in
theorem spec_Meeting_any (ts : List Tb) (ta : Option Addr) (c : Nat) (L R : Kv) (a1 a2 : Option Addr) (c1 c2 : Nat) (w : World) (h : TabsAt w ts ta c) (hsh : ∀ t ∈ ts, t.short) (ho : ∀ i, i < ts.length → OrdAt false ts i) (h30 : ts.length ≤ 30)
    (lL : L.key.length ≤ 2147483647) (lR : R.key.length ≤ 2147483647) (bL : By w L.key a1 c1) (bR : By w R.key a2 c2) :
    Calls Try.prog 19 #[.slice ta ts.length c, bndV true a1 L.key.length c1 L.ver, bndV true a2 R.key.length c2 R.ver] w
      fun e w' => e = .returned (.tuple #[.int .i64 (mFrom ts L), .int .i64 (mTo ts R)]) ∧ Tch [] w w' := by
  have T : Tch [] w ((w.alloc (bndO true a1 L.key.length c1 L.ver)).alloc (bndO true a2 R.key.length c2 R.ver)) := ((Tch.refl _ _).alloc _).alloc _
  have hb := box2 w (bndO true a1 L.key.length c1 L.ver) (bndO true a2 R.key.length c2 R.ver)
  generalize hW : (w.alloc (bndO true a1 L.key.length c1 L.ver)).alloc (bndO true a2 R.key.length c2 R.ver) = W at *
  have HCL := Lib.hid (fun (w' : World) (t : Tch [] W w') => (⟨bnd_cells (t.obj hb.1 (by simp)), bnd_cells (t.obj hb.2 (by simp))⟩ : _ ∧ _))
  have HST := Lib.hid (fun (w' : World) (t : Tch [] W w') => h.tch (T.trans t))
  have HO1 := Lib.hid (fun (w' : World) (t : Tch [] W w') (k : Kv) (b : Option Addr) (d : Nat) (tt : Bool) (hm : k.key.length ≤ 2147483647) (hk : By w' k.key b d) => spec_order_any true tt L k a1 b c1 d w' lL hm (bL.tch (T.trans t)) hk)
  have HO2 := Lib.hid (fun (w' : World) (t : Tch [] W w') (k : Kv) (b : Option Addr) (d : Nat) (tt : Bool) (hm : k.key.length ≤ 2147483647) (hk : By w' k.key b d) => spec_order_any true tt R k a2 b c2 d w' lR hm (bR.tch (T.trans t)) hk)
  have HSH := Lib.hid hsh
  have HOR := Lib.hid ho
  have HW := Lib.hid hW
  have HT := Lib.hid T
  have h30i : (ts.length : Int) ≤ 30 := by omega
  obtain ⟨⟨x0, x1, x2⟩, y0, y1, y2⟩ := HCL.out W (Tch.refl _ _)
  clear hb T h hsh ho hW bL bR lL lR
  go_enter Try.func19, Try.ntmps19
  go_upto_region 1 with fail
  rw [HW.out]
  go_wp2_with fail
  clear x0 x1 x2 y0 y1 y2
  go_loopg [8] ts.length (fun nn s8 wr => ∃ k : Nat, k ≤ ts.length ∧ nn = ts.length - k ∧ s8 = .int .i64 k ∧ Hid (Before (pF ts L) k ∧ Tch [] W wr))
  case atStart => exact ⟨0, Nat.zero_le _, rfl, rfl, Before.zero _, Tch.refl _ _⟩
  case round =>
    obtain ⟨k, hk, rfl, rfl, HR⟩ := hrel
    rename World => wr
    obtain ⟨⟨x0, x1, x2⟩, y0, y1, y2⟩ := HCL.out _ HR.out.2
    go_upto_region 4 with fail
    go_cut [8, 31] from 18 to 33 (fun s8 s31 wx => ∃ bb : Bool, s8 = .int .i64 k ∧ s31 = .bool bb ∧ Hid (Stop (pF ts L) ts.length k bb ∧ Tch [] W wx))
    case first =>
      by_cases hlt : k < ts.length
      · have hlt2 : (k : Int) < ts.length := by omega
        cases ta with
        | none => have h0 := ((HST.out _ HR.out.2).nil rfl).2; rw [h0] at hlt; exact absurd hlt (by simp)
        | some a =>
        obtain ⟨b1, d1, b2, d2, hcc⟩ := (HST.out _ HR.out.2).at' a rfl k hlt
        have hsh := HSH.out (ts.getD k default) (by simp [List.getD, List.getElem?_eq_getElem hlt])
        have HLT := Lib.hid hlt
        by_cases hp : pF ts L k
        · have HPR : Hid (Stop (pF ts L) ts.length k false) := Lib.hid (Stop.hit hp)
          have hp0 : kcmp L (ts.getD k default).k2 ≤ 0 := hp
          generalize hq : ts.getD k default = p at *
          obtain ⟨num, t1, ⟨l1, v1⟩, t2, ⟨l2, v2⟩, bytes, ver, stale, age⟩ := p
          obtain ⟨⟨z0, z1, z2, z3, z4, z5, z6⟩, -⟩ := hcc.all
          have HC := Lib.hid (fun w' (t : Tch [] wr w') => HO1.out w' (HR.out.2.trans t) ⟨l2, v2⟩ b2 d2 t2 hsh.2 (hcc.by2.tch t))
          have HZ := Lib.hid (fun w' (t : Tch [] wr w') => (hcc.tch t).all.1)
          generalize hx : kcmp L ⟨l2, v2⟩ = x at *
          have hp2 : x ≤ 0 := hp0
          have hd : decide (0 < x) = false := decide_eq_false (by omega)
          clear hcc hsh hlt hp hp0 hp2 hq hx
          go_wp2_with fail
          go_region_held3 (fun w' => w'.cell? ⟨w.heap.size, 0, none⟩ = some (.bool true) ∧ w'.cell? ⟨w.heap.size, 1, none⟩ = some (.slice a1 L.key.length c1) ∧ w'.cell? ⟨w.heap.size, 2, none⟩ = some (.int .u64 L.ver) ∧ w'.cell? ⟨(a.add (k * 11)).block, (a.add (k * 11)).off + 4, none⟩ = some (.bool t2) ∧ w'.cell? ⟨(a.add (k * 11)).block, (a.add (k * 11)).off + 5, none⟩ = some (.slice b2 l2.length d2) ∧ w'.cell? ⟨(a.add (k * 11)).block, (a.add (k * 11)).off + 6, none⟩ = some (.int .u64 v2)) (go_keep)
            (first
              | (go_at_call 26; (with_reducible refine (HC.out _ ?_).mono ?_); (repeat (first | exact Tch.refl _ _ | exact Hid.out (by assumption) | refine Tch.drew ?_)); rintro e w5 ⟨rfl, t⟩
                 have HT5 : Hid (Tch [] wr w5) := Tch.trans (by repeat (first | exact Tch.refl _ _ | exact Hid.out (by assumption) | refine Tch.drew ?_)) t
                 clear t x0 x1 x2 y0 y1 y2 z0 z1 z2 z3 z4 z5 z6
                 obtain ⟨⟨x0, x1, x2⟩, y0, y1, y2⟩ := HCL.out _ (HR.out.2.trans HT5.out)
                 obtain ⟨z0, z1, z2, z3, z4, z5, z6⟩ := HZ.out _ HT5.out))
          all_goals (try go_wp2_with fail)
          all_goals go_meet
          all_goals exact ⟨false, rfl, rfl, HPR.out, HR.out.2.trans (by repeat (first | exact Tch.refl _ _ | exact Hid.out (by assumption) | refine Tch.drew ?_))⟩
        · have HPR : Hid (Stop (pF ts L) ts.length k true) := Lib.hid (Stop.go hlt hp)
          have hp0 : ¬ (kcmp L (ts.getD k default).k2 ≤ 0) := hp
          generalize hq : ts.getD k default = p at *
          obtain ⟨num, t1, ⟨l1, v1⟩, t2, ⟨l2, v2⟩, bytes, ver, stale, age⟩ := p
          obtain ⟨⟨z0, z1, z2, z3, z4, z5, z6⟩, -⟩ := hcc.all
          have HC := Lib.hid (fun w' (t : Tch [] wr w') => HO1.out w' (HR.out.2.trans t) ⟨l2, v2⟩ b2 d2 t2 hsh.2 (hcc.by2.tch t))
          have HZ := Lib.hid (fun w' (t : Tch [] wr w') => (hcc.tch t).all.1)
          generalize hx : kcmp L ⟨l2, v2⟩ = x at *
          have hp2 : ¬ (x ≤ 0) := hp0
          have hd : decide (0 < x) = true := decide_eq_true (by omega)
          clear hcc hsh hlt hp hp0 hp2 hq hx
          go_wp2_with fail
          go_region_held3 (fun w' => w'.cell? ⟨w.heap.size, 0, none⟩ = some (.bool true) ∧ w'.cell? ⟨w.heap.size, 1, none⟩ = some (.slice a1 L.key.length c1) ∧ w'.cell? ⟨w.heap.size, 2, none⟩ = some (.int .u64 L.ver) ∧ w'.cell? ⟨(a.add (k * 11)).block, (a.add (k * 11)).off + 4, none⟩ = some (.bool t2) ∧ w'.cell? ⟨(a.add (k * 11)).block, (a.add (k * 11)).off + 5, none⟩ = some (.slice b2 l2.length d2) ∧ w'.cell? ⟨(a.add (k * 11)).block, (a.add (k * 11)).off + 6, none⟩ = some (.int .u64 v2)) (go_keep)
            (first
              | (go_at_call 26; (with_reducible refine (HC.out _ ?_).mono ?_); (repeat (first | exact Tch.refl _ _ | exact Hid.out (by assumption) | refine Tch.drew ?_)); rintro e w5 ⟨rfl, t⟩
                 have HT5 : Hid (Tch [] wr w5) := Tch.trans (by repeat (first | exact Tch.refl _ _ | exact Hid.out (by assumption) | refine Tch.drew ?_)) t
                 clear t x0 x1 x2 y0 y1 y2 z0 z1 z2 z3 z4 z5 z6
                 obtain ⟨⟨x0, x1, x2⟩, y0, y1, y2⟩ := HCL.out _ (HR.out.2.trans HT5.out)
                 obtain ⟨z0, z1, z2, z3, z4, z5, z6⟩ := HZ.out _ HT5.out))
          all_goals (try go_wp2_with fail)
          all_goals go_meet
          all_goals exact ⟨true, rfl, rfl, HPR.out, HR.out.2.trans (by repeat (first | exact Tch.refl _ _ | exact Hid.out (by assumption) | refine Tch.drew ?_))⟩
      · obtain rfl : k = ts.length := by omega
        clear hlt
        go_wp2_with fail
        go_quiet (fail)
        all_goals (try go_wp2_with fail)
        go_meet
        exact ⟨false, rfl, rfl, Stop.end, HR.out.2.drewN _⟩
    case rest =>
      obtain ⟨bb, rfl, rfl, HCU⟩ := hcut
      clear x0 x1 x2 y0 y1 y2
      cases bb with
      | true =>
        have HK := Lib.hid HCU.out.1
        have HT7 := Lib.hid HCU.out.2
        clear HCU
        go_wp2_with fail
        go_roundg (ts.length - (k + 1))
        case rel => exact ⟨k + 1, by have := HK.out.t.1; omega, rfl, by go_num, HR.out.1.succ HK.out.t.2, HT7.out⟩
        case measure => have := HK.out.t.1; omega
      | false =>
        have hkk := HCU.out.1.f
        have HF1 := Lib.hid (first_from HOR.out hk HR.out.1 hkk)
        have HF1T := Lib.hid HCU.out.2
        clear HCU hkk
        clear HR
        rename Nat => k1
        go_wp2_with fail
        go_loopg [9] ts.length (fun nn s9 wr => ∃ k : Nat, k ≤ ts.length ∧ nn = ts.length - k ∧ s9 = .int .i64 k ∧ Hid (Before (pT ts R) k ∧ Tch [] W wr))
        case atStart => exact ⟨0, Nat.zero_le _, rfl, rfl, Before.zero _, HF1T.out⟩
        case round =>
          obtain ⟨k, hk, rfl, rfl, HR⟩ := hrel
          rename World => wr
          obtain ⟨⟨x0, x1, x2⟩, y0, y1, y2⟩ := HCL.out _ HR.out.2
          go_upto_region 7 with fail
          go_cut [9, 47] from 34 to 49 (fun s9 s47 wx => ∃ bb : Bool, s9 = .int .i64 k ∧ s47 = .bool bb ∧ Hid (Stop (pT ts R) ts.length k bb ∧ Tch [] W wx))
          case first =>
            by_cases hlt : k < ts.length
            · have hlt2 : (k : Int) < ts.length := by omega
              cases ta with
              | none => have h0 := ((HST.out _ HR.out.2).nil rfl).2; rw [h0] at hlt; exact absurd hlt (by simp)
              | some a =>
              obtain ⟨b1, d1, b2, d2, hcc⟩ := (HST.out _ HR.out.2).at' a rfl k hlt
              have hsh := HSH.out (ts.getD k default) (by simp [List.getD, List.getElem?_eq_getElem hlt])
              have HLT := Lib.hid hlt
              by_cases hp : pT ts R k
              · have HPR : Hid (Stop (pT ts R) ts.length k false) := Lib.hid (Stop.hit hp)
                have hp0 : kcmp R (ts.getD k default).k1 < 0 := hp
                generalize hq : ts.getD k default = p at *
                obtain ⟨num, t1, ⟨l1, v1⟩, t2, ⟨l2, v2⟩, bytes, ver, stale, age⟩ := p
                obtain ⟨⟨z0, z1, z2, z3, z4, z5, z6⟩, -⟩ := hcc.all
                have HC := Lib.hid (fun w' (t : Tch [] wr w') => HO2.out w' (HR.out.2.trans t) ⟨l1, v1⟩ b1 d1 t1 hsh.1 (hcc.by1.tch t))
                have HZ := Lib.hid (fun w' (t : Tch [] wr w') => (hcc.tch t).all.1)
                generalize hx : kcmp R ⟨l1, v1⟩ = x at *
                have hp2 : x < 0 := hp0
                have hd : decide (0 ≤ x) = false := decide_eq_false (by omega)
                clear hcc hsh hlt hp hp0 hp2 hq hx
                go_wp2_with fail
                go_region_held3 (fun w' => w'.cell? ⟨w.heap.size + 1, 0, none⟩ = some (.bool true) ∧ w'.cell? ⟨w.heap.size + 1, 1, none⟩ = some (.slice a2 R.key.length c2) ∧ w'.cell? ⟨w.heap.size + 1, 2, none⟩ = some (.int .u64 R.ver) ∧ w'.cell? ⟨(a.add (k * 11)).block, (a.add (k * 11)).off + 1, none⟩ = some (.bool t1) ∧ w'.cell? ⟨(a.add (k * 11)).block, (a.add (k * 11)).off + 2, none⟩ = some (.slice b1 l1.length d1) ∧ w'.cell? ⟨(a.add (k * 11)).block, (a.add (k * 11)).off + 3, none⟩ = some (.int .u64 v1)) (go_keep)
                  (first
                    | (go_at_call 26; (with_reducible refine (HC.out _ ?_).mono ?_); (repeat (first | exact Tch.refl _ _ | exact Hid.out (by assumption) | refine Tch.drew ?_)); rintro e w5 ⟨rfl, t⟩
                       have HT5 : Hid (Tch [] wr w5) := Tch.trans (by repeat (first | exact Tch.refl _ _ | exact Hid.out (by assumption) | refine Tch.drew ?_)) t
                       clear t x0 x1 x2 y0 y1 y2 z0 z1 z2 z3 z4 z5 z6
                       obtain ⟨⟨x0, x1, x2⟩, y0, y1, y2⟩ := HCL.out _ (HR.out.2.trans HT5.out)
                       obtain ⟨z0, z1, z2, z3, z4, z5, z6⟩ := HZ.out _ HT5.out))
                all_goals (try go_wp2_with fail)
                all_goals go_meet
                all_goals exact ⟨false, rfl, rfl, HPR.out, HR.out.2.trans (by repeat (first | exact Tch.refl _ _ | exact Hid.out (by assumption) | refine Tch.drew ?_))⟩
              · have HPR : Hid (Stop (pT ts R) ts.length k true) := Lib.hid (Stop.go hlt hp)
                have hp0 : ¬ (kcmp R (ts.getD k default).k1 < 0) := hp
                generalize hq : ts.getD k default = p at *
                obtain ⟨num, t1, ⟨l1, v1⟩, t2, ⟨l2, v2⟩, bytes, ver, stale, age⟩ := p
                obtain ⟨⟨z0, z1, z2, z3, z4, z5, z6⟩, -⟩ := hcc.all
                have HC := Lib.hid (fun w' (t : Tch [] wr w') => HO2.out w' (HR.out.2.trans t) ⟨l1, v1⟩ b1 d1 t1 hsh.1 (hcc.by1.tch t))
                have HZ := Lib.hid (fun w' (t : Tch [] wr w') => (hcc.tch t).all.1)
                generalize hx : kcmp R ⟨l1, v1⟩ = x at *
                have hp2 : ¬ (x < 0) := hp0
                have hd : decide (0 ≤ x) = true := decide_eq_true (by omega)
                clear hcc hsh hlt hp hp0 hp2 hq hx
                go_wp2_with fail
                go_region_held3 (fun w' => w'.cell? ⟨w.heap.size + 1, 0, none⟩ = some (.bool true) ∧ w'.cell? ⟨w.heap.size + 1, 1, none⟩ = some (.slice a2 R.key.length c2) ∧ w'.cell? ⟨w.heap.size + 1, 2, none⟩ = some (.int .u64 R.ver) ∧ w'.cell? ⟨(a.add (k * 11)).block, (a.add (k * 11)).off + 1, none⟩ = some (.bool t1) ∧ w'.cell? ⟨(a.add (k * 11)).block, (a.add (k * 11)).off + 2, none⟩ = some (.slice b1 l1.length d1) ∧ w'.cell? ⟨(a.add (k * 11)).block, (a.add (k * 11)).off + 3, none⟩ = some (.int .u64 v1)) (go_keep)
                  (first
                    | (go_at_call 26; (with_reducible refine (HC.out _ ?_).mono ?_); (repeat (first | exact Tch.refl _ _ | exact Hid.out (by assumption) | refine Tch.drew ?_)); rintro e w5 ⟨rfl, t⟩
                       have HT5 : Hid (Tch [] wr w5) := Tch.trans (by repeat (first | exact Tch.refl _ _ | exact Hid.out (by assumption) | refine Tch.drew ?_)) t
                       clear t x0 x1 x2 y0 y1 y2 z0 z1 z2 z3 z4 z5 z6
                       obtain ⟨⟨x0, x1, x2⟩, y0, y1, y2⟩ := HCL.out _ (HR.out.2.trans HT5.out)
                       obtain ⟨z0, z1, z2, z3, z4, z5, z6⟩ := HZ.out _ HT5.out))
                all_goals (try go_wp2_with fail)
                all_goals go_meet
                all_goals exact ⟨true, rfl, rfl, HPR.out, HR.out.2.trans (by repeat (first | exact Tch.refl _ _ | exact Hid.out (by assumption) | refine Tch.drew ?_))⟩
            · obtain rfl : k = ts.length := by omega
              clear hlt
              go_wp2_with fail
              go_quiet (fail)
              all_goals (try go_wp2_with fail)
              go_meet
              exact ⟨false, rfl, rfl, Stop.end, HR.out.2.drewN _⟩
          case rest =>
            obtain ⟨bb, rfl, rfl, HCU⟩ := hcut
            clear x0 x1 x2 y0 y1 y2
            cases bb with
            | true =>
              have HK := Lib.hid HCU.out.1
              have HT7 := Lib.hid HCU.out.2
              clear HCU
              go_wp2_with fail
              go_roundg (ts.length - (k + 1))
              case rel => exact ⟨k + 1, by have := HK.out.t.1; omega, rfl, by go_num, HR.out.1.succ HK.out.t.2, HT7.out⟩
              case measure => have := HK.out.t.1; omega
            | false =>
              have hkk := HCU.out.1.f
              have HF2 := Lib.hid (first_to HOR.out hk HR.out.1 hkk)
              have HF2T := Lib.hid HCU.out.2
              clear HCU hkk
              go_wp2_with fail
              go_ret2
              exact ⟨by rw [← HF1.out, ← HF2.out]; rfl, HT.out.trans HF2T.out⟩

end Go.Proofs.Ytdofgamahjmohaa
