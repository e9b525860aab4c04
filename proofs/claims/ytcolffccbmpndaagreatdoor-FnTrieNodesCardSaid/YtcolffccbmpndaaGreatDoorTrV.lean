/- removeEmpty, walked. (printed by wip/gen/genrem.py) -/
import Derived.Test.YtcolffccbmpndaaGreatDoorTrE
namespace Go.Proofs.YtcolffccbmpndaaGreatDoor
open Go.RowKit Go.Deep
set_option maxRecDepth 100000

/-- What has been gone through when these keys are left. -/
def DL (left : List Int) (s : Hop) : Prop := ∀ b, s = some b → b ∉ left
theorem DL_step (left : List Int) (y : Int) (u : Hop) : DL (left.filter (· != y)) u ↔ DL left u ∨ u = some y := by
  unfold DL
  constructor
  · intro h
    by_cases e : u = some y
    · exact .inr e
    · left
      intro b hb hm
      refine h b hb (List.mem_filter.2 ⟨hm, ?_⟩)
      have : b ≠ y := fun e2 => e (by rw [hb, e2])
      simpa using this
  · rintro (h | rfl) b hb hm
    · exact h b hb (List.mem_filter.1 hm).1
    · obtain rfl : y = b := by simpa using hb
      simp at hm
theorem DL_not {left : List Int} {y : Int} (h : y ∈ left) : ¬ DL left (some y) := fun hd => hd y rfl h

/-- All children gone through. -/
theorem Half.rem {w w1 : World} {base root : Nat} {N N1 : Net} {q : Path} {r r1 : NRec} {b : Bool} (h : Half (DL []) w base root N q r w1 N1 r1) (h0 : TM w base root N) (hq : N q = some r) (hb : b = true ↔ r1.ids = [] ∧ ∀ s, N1 (q ++ [s]) = none) : Rem w base root N q w1 N1 b := by
  have hall : ∀ s, DL [] s := fun s b _ => by simp
  refine ⟨h.tm, by rw [h.ct, half_all hall], h.out, fun r' hr => ⟨r1, h.at_, ?_⟩, h.t, h.fp, hb.trans ?_⟩
  · rw [hq] at hr
    rw [h.blk, ← Option.some.inj hr]
  · rw [h.ids]
    constructor
    · rintro ⟨hi, hc⟩ ⟨t, l, h1, h2⟩
      cases t with
      | nil =>
        rw [List.append_nil, cont_some.2 ⟨r, hq, rfl⟩] at h1
        exact h2 (by rw [← Option.some.inj h1]; exact hi)
      | cons s t =>
        have hl : Live (cont N) (q ++ [s]) := ⟨t, l, by simpa using h1, h2⟩
        have := cont_none.2 (hc s)
        rw [h.ct] at this
        rcases halfC_cases (cont N) q (DL []) (q ++ [s]) with e | ⟨-, e⟩
        · rw [e] at this
          exact h0.up.pre (q := q ++ [s]) (p := q ++ s :: t) ⟨t, by simp⟩ (by rw [h1]; simp) this
        · exact e hl
    · intro hl
      constructor
      · cases hi : r.ids with
        | nil => rfl
        | cons a l => exact absurd (live_one (cont_some.2 ⟨r, hq, rfl⟩) (by rw [hi]; simp)) hl
      · intro s
        rw [← cont_none, h.ct]
        unfold halfC
        rw [if_pos ⟨⟨s, [], rfl, hall s⟩, not_live_pre hl (List.prefix_append _ _)⟩]

/-- What a call of removeEmpty tells, where at most n steps go further down. -/
def RemSays (n : Nat) : Prop := ∀ (w : World) (base root : Nat) (N : Net), TM w base root N → ∀ (q : Path) (r : NRec), N q = some r → (∀ t, N (q ++ t) ≠ none → t.length ≤ n) →
  Calls Tryz.prog 42 #[ptr r.blk] w fun e w' => ∃ N' b, e = .returned (.bool b) ∧ Rem w base root N q w' N' b

set_option maxHeartbeats 8000000 in
theorem rem_step (n : Nat) (IH : ∀ m, m < n → RemSays m) : RemSays n := by
  intro w base root N h q r hq hdep
  have HCH : Hid (∀ (s : Hop) (w1 : World) (D : Hop → Prop) (N1 : Net) (r1 c : NRec), Half D w base root N q r w1 N1 r1 → N1 (q ++ [s]) = some c → Calls Tryz.prog 42 #[ptr c.blk] w1 fun e w2 => ∃ N2 b, e = .returned (.bool b) ∧ Rem w1 base root N1 (q ++ [s]) w2 N2 b) := Lib.hid (fun s w1 D N1 r1 c hH hc => by
    have h1 := hdep [s] (hH.none_of (by rw [hc]; simp))
    simp at h1
    refine IH (n - 1) (by omega) w1 base root N1 hH.tm (q ++ [s]) c hc (fun t ht => ?_)
    have := hdep (s :: t) (hH.none_of (by simpa using ht))
    simp at this
    omega)
  have hn := h.node q r hq
  have HTM := Lib.hid h
  have HQ := Lib.hid hq
  have HUP := Lib.hid h.up
  have HND := Lib.hid hn
  have hc0 : w.cell? ⟨r.blk, 0, none⟩ = some (.map (some r.mb)) := by rw [cell_of_row w r.blk 0 _ _ _ hn.cells]; rfl
  have hc1 : w.cell? ⟨r.blk, 1, none⟩ = some (ptrO (N (q ++ [none]))) := by rw [cell_of_row w r.blk 1 _ _ _ hn.cells]; rfl
  clear hdep IH hn h hq
  cases hN : N (q ++ [none]) with
  | none =>
    rw [hN] at hc1
    simp only [ptrO] at hc1
    have HH : Hid (Half (fun s => s = none) w base root N q r w N r) := Lib.hid ((Half.begin HTM.out HQ.out).more HUP.out (fun s hs => hs.elim) (fun s hs _ => by rw [hs]; exact hN))
    clear hN hc0
    go_enter Tryz.func42, Tryz.ntmps42
    have hnA := HH.out.tm.node _ _ HH.out.at_
    have hcA : w.cell? ⟨r.blk, 0, none⟩ = some (.map (some r.mb)) := by rw [← HH.out.blk, cell_of_row w r.blk 0 _ _ _ hnA.cells, ← HH.out.mb]; rfl
    have hmA := hnA.map
    rw [HH.out.mb] at hmA
    have hrg : ∃ vv w', (Instr.range 84 (.map (some r.mb))).run Tryz.prog w = .ok vv w' ∧ (vv = .pointer (some ⟨w.heap.size, 0, none⟩) ∧ RIter .u8 w' w.heap.size r.mb r.ch (r.ch.map Prod.fst) ∧ Tch [] w w') := by
      obtain ⟨w', a1, a2, a3, -⟩ := hmA.range (P := Tryz.prog) (t := 84) (k := 5) (e := 71) Tryz.underlying84
      exact ⟨_, w', a1, rfl, a2, a3⟩
    have HRG := Lib.hid hrg
    have HSZ : Hid (w.heap.size ≤ w.heap.size) := Lib.hid HH.out.t.size
    clear hrg hnA hmA
    go_wp2_with (at_range; refine wpList_range_run rfl _ 84 rfl _ rfl _ HRG.out ?_; rintro vv wi ⟨rfl, hit, ht⟩; go_frame)
    have HIT := Lib.hid hit
    have HHI : Hid (Half (DL (r.ch.map Prod.fst)) w base root N q r wi N r) := Lib.hid ((HH.out.more HUP.out (fun s hs b hb => by rw [hs] at hb; simp at hb) (fun s hs hd => by
      cases s with
      | none => exact absurd rfl hd
      | some b =>
        have hb := hs b rfl
        cases hN : N (q ++ [some b]) with
        | none => rfl
        | some c => exact absurd ((keys_of HH.out.tm HH.out.at_ b).1 (cont_ne.2 (by rw [hN]; simp))) hb)).go (Tof.of_tch (F := fun _ => False) ht (by simp)) (fun _ h => h.elim) HTM.out)
    clear hit ht
    go_loopg [] r.ch.length (fun nn wr => ∃ (left : List Int) (N1 : Net) (r1 : NRec), nn = left.length ∧ Hid (RIter .u8 wr w.heap.size r.mb r1.ch left ∧ Half (DL left) w base root N q r wr N1 r1))
    case atStart => exact ⟨r.ch.map Prod.fst, N, r, by simp, HIT.out, HHI.out⟩
    case round =>
      obtain ⟨left, N1, r1, rfl, HZ⟩ := hrel
      rename World => wr
      have hrb := HZ.out.1.ne_map
      rcases HZ.out.1.next (P := Tryz.prog) hrb 0 with ⟨hl, hrun⟩ | ⟨y, vv, w6, hk, hat, hrun, hit6, ht6, hsz6, hent⟩
      · have HE := Lib.hid (isEmpty_any HZ.out.2.tm HZ.out.2.at_)
        rw [HZ.out.2.blk] at HE
        have HZL := Lib.hid HZ.out.2
        rw [hl] at HZL
        clear hl hrb HZ hcA
        go_wp2_with fail
        refine HE.out.mono ?_
        rintro e wf ⟨b, rfl, rfl, hb⟩
        have HB := Lib.hid hb
        clear hb
        go_wp2_with fail
        go_ret
        exact ⟨N1, b, rfl, HZL.out.rem HTM.out HQ.out HB.out⟩
      · have hvv : vv = ptrO (N1 (q ++ [some y])) ∧ ∃ ch, N1 (q ++ [some y]) = some ch := by
          have hc := (HZ.out.2.tm.node _ _ HZ.out.2.at_).ch y
          rw [hat] at hc
          cases hN : N1 (q ++ [some y]) with
          | none => rw [hN] at hc; simp at hc
          | some ch => rw [hN] at hc; exact ⟨by simpa [ptrO] using hc, ch, rfl⟩
        obtain ⟨hvv, ch, hch⟩ := hvv
        rw [hch] at hvv
        simp only [ptrO] at hvv
        subst hvv
        have hll : (left.filter (· != y)).length < left.length := by
          rw [← Nat.not_le]
          intro hge
          have := List.filter_sublist.eq_of_length_le hge
          have hy2 : y ∈ left.filter (· != y) := by rw [this]; exact hk
          simp at hy2
        have HL6 := Lib.hid hll
        have HH6 := Lib.hid (HZ.out.2.go (F := fun k => k = w.heap.size) (Tof.of_tch ht6 (fun k hm _ => by simpa using hm)) (fun k hk => by have := HSZ.out; omega) HTM.out)
        have HIT6 := Lib.hid hit6
        have HCA := Lib.hid (HCH.out (some y) w6 _ N1 r1 ch HH6.out hch)
        have HDD := Lib.hid (DL_step left y)
        have HDN := Lib.hid (DL_not hk)
        clear hk hll hit6 hat ht6 hsz6 hrb hch HZ
        go_wp2_with fail
        refine HCA.out.mono ?_
        rintro e w7 ⟨N2, b, rfl, hR⟩
        have HR := Lib.hid hR
        have HIT7 : Hid (RIter .u8 w7 w.heap.size r.mb r1.ch (left.filter (· != y))) := Lib.hid (HIT6.out.tof hR.t (fun hf => by
          have h1 := (HTM.out.fp_lt (fpAt_all (HH6.out.fp _ _ hf))).2
          have h2 := HSZ.out
          omega) (by rw [← HH6.out.mb]; exact not_below HH6.out.tm HH6.out.at_ (.inr (.inl rfl)) _))
        clear hR hrun hent hcA
        cases b with
        | false =>
          go_wp2_with fail
          go_roundg (left.filter (· != y)).length
          case rel => exact ⟨left.filter (· != y), N2, r1, rfl, HIT7.out, HH6.out.keep HR.out HDD.out HDN.out⟩
          case measure => exact HL6.out
        | true =>
          have hq2 : N2 q = some r1 := by rw [HR.out.out q (q_not q _)]; exact HH6.out.at_
          have hn7 := HR.out.tm.node _ _ hq2
          have hc7 : w7.cell? ⟨r.blk, 0, none⟩ = some (.map (some r.mb)) := by rw [← HH6.out.blk, cell_of_row w7 r1.blk 0 _ _ _ hn7.cells, ← HH6.out.mb]; rfl
          have HDL : Hid (∀ ty, ∃ w8, (Builtin.delete_ #[84, 5] ty #[.map (some r.mb), .int .u8 y]).run Tryz.prog w7 = .ok (.tuple #[]) w8 ∧ (RIter .u8 w8 w.heap.size r.mb (delL r1.ch y) (left.filter (· != y)) ∧ Half (DL (left.filter (· != y))) w base root N q r w8 (cutN N2 q (some y) { r1 with ch := delL r1.ch y }) { r1 with ch := delL r1.ch y })) := Lib.hid (fun ty => by
            obtain ⟨w8, a1, a2, a3, -⟩ := HIT7.out.delete HIT7.out.ne_map (P := Tryz.prog) (k := 5) (t := 84) (e := 71) Tryz.underlying5 Tryz.underlying84 y (by simp) ty
            refine ⟨w8, a1, a2, ?_⟩
            have hm8 := a2.map
            have a3' : Tch [r1.mb] w7 w8 := by rw [HH6.out.mb]; exact a3
            rw [← HH6.out.mb] at hm8
            obtain ⟨n1, n2⟩ := nd_cut_some hn7 a3' hm8
            exact HH6.out.strike HR.out HDD.out HDN.out rfl rfl rfl rfl n2 (fun k hk => .inr hk) n1)
          clear hq2 hn7
          go_wp2_with (at_delete; refine wpList_delete_run rfl _ _ 84 5 rfl _ _ rfl rfl _ (HDL.out _) ?_; rintro w8 ⟨q1, q2⟩; have HQ1 := Lib.hid q1; have HQ2 := Lib.hid q2; clear q1 q2)
          go_roundg (left.filter (· != y)).length
          case rel => exact ⟨left.filter (· != y), _, _, rfl, HQ1.out, HQ2.out⟩
          case measure => exact HL6.out
  | some c =>
    rw [hN] at hc1
    simp only [ptrO] at hc1
    have HCA0 := Lib.hid (HCH.out none w _ N r c (Half.begin HTM.out HQ.out) hN)
    clear hN hc0
    go_enter Tryz.func42, Tryz.ntmps42
    go_wp2_with fail
    refine HCA0.out.mono ?_
    rintro e w0 ⟨N0, b, rfl, hR⟩
    have HR0 := Lib.hid hR
    clear hR hc1
    cases b with
    | false =>
      have HH : Hid (Half (fun s => s = none) w base root N q r w0 N0 r) := Lib.hid ((Half.begin HTM.out HQ.out).keep HR0.out (fun u => by simp) (fun h => h))
      have hnA := HH.out.tm.node _ _ HH.out.at_
      have hcA : w0.cell? ⟨r.blk, 0, none⟩ = some (.map (some r.mb)) := by rw [← HH.out.blk, cell_of_row w0 r.blk 0 _ _ _ hnA.cells, ← HH.out.mb]; rfl
      have hmA := hnA.map
      rw [HH.out.mb] at hmA
      have hrg : ∃ vv w', (Instr.range 84 (.map (some r.mb))).run Tryz.prog w0 = .ok vv w' ∧ (vv = .pointer (some ⟨w0.heap.size, 0, none⟩) ∧ RIter .u8 w' w0.heap.size r.mb r.ch (r.ch.map Prod.fst) ∧ Tch [] w0 w') := by
        obtain ⟨w', a1, a2, a3, -⟩ := hmA.range (P := Tryz.prog) (t := 84) (k := 5) (e := 71) Tryz.underlying84
        exact ⟨_, w', a1, rfl, a2, a3⟩
      have HRG := Lib.hid hrg
      have HSZ : Hid (w.heap.size ≤ w0.heap.size) := Lib.hid HH.out.t.size
      clear hrg hnA hmA
      go_wp2_with (at_range; refine wpList_range_run rfl _ 84 rfl _ rfl _ HRG.out ?_; rintro vv wi ⟨rfl, hit, ht⟩; go_frame)
      have HIT := Lib.hid hit
      have HHI : Hid (Half (DL (r.ch.map Prod.fst)) w base root N q r wi N0 r) := Lib.hid ((HH.out.more HUP.out (fun s hs b hb => by rw [hs] at hb; simp at hb) (fun s hs hd => by
        cases s with
        | none => exact absurd rfl hd
        | some b =>
          have hb := hs b rfl
          cases hN : N0 (q ++ [some b]) with
          | none => rfl
          | some c => exact absurd ((keys_of HH.out.tm HH.out.at_ b).1 (cont_ne.2 (by rw [hN]; simp))) hb)).go (Tof.of_tch (F := fun _ => False) ht (by simp)) (fun _ h => h.elim) HTM.out)
      clear hit ht
      go_loopg [] r.ch.length (fun nn wr => ∃ (left : List Int) (N1 : Net) (r1 : NRec), nn = left.length ∧ Hid (RIter .u8 wr w0.heap.size r.mb r1.ch left ∧ Half (DL left) w base root N q r wr N1 r1))
      case atStart => exact ⟨r.ch.map Prod.fst, N0, r, by simp, HIT.out, HHI.out⟩
      case round =>
        obtain ⟨left, N1, r1, rfl, HZ⟩ := hrel
        rename World => wr
        have hrb := HZ.out.1.ne_map
        rcases HZ.out.1.next (P := Tryz.prog) hrb 0 with ⟨hl, hrun⟩ | ⟨y, vv, w6, hk, hat, hrun, hit6, ht6, hsz6, hent⟩
        · have HE := Lib.hid (isEmpty_any HZ.out.2.tm HZ.out.2.at_)
          rw [HZ.out.2.blk] at HE
          have HZL := Lib.hid HZ.out.2
          rw [hl] at HZL
          clear hl hrb HZ hcA
          go_wp2_with fail
          refine HE.out.mono ?_
          rintro e wf ⟨b, rfl, rfl, hb⟩
          have HB := Lib.hid hb
          clear hb
          go_wp2_with fail
          go_ret
          exact ⟨N1, b, rfl, HZL.out.rem HTM.out HQ.out HB.out⟩
        · have hvv : vv = ptrO (N1 (q ++ [some y])) ∧ ∃ ch, N1 (q ++ [some y]) = some ch := by
            have hc := (HZ.out.2.tm.node _ _ HZ.out.2.at_).ch y
            rw [hat] at hc
            cases hN : N1 (q ++ [some y]) with
            | none => rw [hN] at hc; simp at hc
            | some ch => rw [hN] at hc; exact ⟨by simpa [ptrO] using hc, ch, rfl⟩
          obtain ⟨hvv, ch, hch⟩ := hvv
          rw [hch] at hvv
          simp only [ptrO] at hvv
          subst hvv
          have hll : (left.filter (· != y)).length < left.length := by
            rw [← Nat.not_le]
            intro hge
            have := List.filter_sublist.eq_of_length_le hge
            have hy2 : y ∈ left.filter (· != y) := by rw [this]; exact hk
            simp at hy2
          have HL6 := Lib.hid hll
          have HH6 := Lib.hid (HZ.out.2.go (F := fun k => k = w0.heap.size) (Tof.of_tch ht6 (fun k hm _ => by simpa using hm)) (fun k hk => by have := HSZ.out; omega) HTM.out)
          have HIT6 := Lib.hid hit6
          have HCA := Lib.hid (HCH.out (some y) w6 _ N1 r1 ch HH6.out hch)
          have HDD := Lib.hid (DL_step left y)
          have HDN := Lib.hid (DL_not hk)
          clear hk hll hit6 hat ht6 hsz6 hrb hch HZ
          go_wp2_with fail
          refine HCA.out.mono ?_
          rintro e w7 ⟨N2, b, rfl, hR⟩
          have HR := Lib.hid hR
          have HIT7 : Hid (RIter .u8 w7 w0.heap.size r.mb r1.ch (left.filter (· != y))) := Lib.hid (HIT6.out.tof hR.t (fun hf => by
            have h1 := (HTM.out.fp_lt (fpAt_all (HH6.out.fp _ _ hf))).2
            have h2 := HSZ.out
            omega) (by rw [← HH6.out.mb]; exact not_below HH6.out.tm HH6.out.at_ (.inr (.inl rfl)) _))
          clear hR hrun hent hcA
          cases b with
          | false =>
            go_wp2_with fail
            go_roundg (left.filter (· != y)).length
            case rel => exact ⟨left.filter (· != y), N2, r1, rfl, HIT7.out, HH6.out.keep HR.out HDD.out HDN.out⟩
            case measure => exact HL6.out
          | true =>
            have hq2 : N2 q = some r1 := by rw [HR.out.out q (q_not q _)]; exact HH6.out.at_
            have hn7 := HR.out.tm.node _ _ hq2
            have hc7 : w7.cell? ⟨r.blk, 0, none⟩ = some (.map (some r.mb)) := by rw [← HH6.out.blk, cell_of_row w7 r1.blk 0 _ _ _ hn7.cells, ← HH6.out.mb]; rfl
            have HDL : Hid (∀ ty, ∃ w8, (Builtin.delete_ #[84, 5] ty #[.map (some r.mb), .int .u8 y]).run Tryz.prog w7 = .ok (.tuple #[]) w8 ∧ (RIter .u8 w8 w0.heap.size r.mb (delL r1.ch y) (left.filter (· != y)) ∧ Half (DL (left.filter (· != y))) w base root N q r w8 (cutN N2 q (some y) { r1 with ch := delL r1.ch y }) { r1 with ch := delL r1.ch y })) := Lib.hid (fun ty => by
              obtain ⟨w8, a1, a2, a3, -⟩ := HIT7.out.delete HIT7.out.ne_map (P := Tryz.prog) (k := 5) (t := 84) (e := 71) Tryz.underlying5 Tryz.underlying84 y (by simp) ty
              refine ⟨w8, a1, a2, ?_⟩
              have hm8 := a2.map
              have a3' : Tch [r1.mb] w7 w8 := by rw [HH6.out.mb]; exact a3
              rw [← HH6.out.mb] at hm8
              obtain ⟨n1, n2⟩ := nd_cut_some hn7 a3' hm8
              exact HH6.out.strike HR.out HDD.out HDN.out rfl rfl rfl rfl n2 (fun k hk => .inr hk) n1)
            clear hq2 hn7
            go_wp2_with (at_delete; refine wpList_delete_run rfl _ _ 84 5 rfl _ _ rfl rfl _ (HDL.out _) ?_; rintro w8 ⟨q1, q2⟩; have HQ1 := Lib.hid q1; have HQ2 := Lib.hid q2; clear q1 q2)
            go_roundg (left.filter (· != y)).length
            case rel => exact ⟨left.filter (· != y), _, _, rfl, HQ1.out, HQ2.out⟩
            case measure => exact HL6.out
    | true =>
      have hq0 : N0 q = some r := by rw [HR0.out.out q (q_not q _)]; exact HQ.out
      have hn0 := HR0.out.tm.node _ _ hq0
      have hcs : ∃ u, w0.cell? ⟨r.blk, 1, none⟩ = some u := ⟨_, by rw [cell_of_row w0 r.blk 1 _ _ _ hn0.cells]; rfl⟩
      obtain ⟨u, hcu⟩ := hcs
      have hfz := frozen_of (j := 1) hn0.cells
      obtain ⟨n1, n2⟩ := nd_cut_none hn0 rfl
      have HH : Hid (Half (fun s => s = none) w base root N q r (w0.setCell ⟨r.blk, 1, none⟩ (.pointer none)) (cutN N0 q none r) r) := Lib.hid ((Half.begin HTM.out HQ.out).strike HR0.out (fun u => by simp) (fun h => h) rfl rfl rfl rfl n2 (fun k hk => .inl hk) n1)
      clear hq0 hn0 n1 n2
      go_upto_region 5 with (fail)
      generalize w0.setCell ⟨r.blk, 1, none⟩ (.pointer none) = wz at *
      clear hcu hfz
      have hnA := HH.out.tm.node _ _ HH.out.at_
      have hcA : wz.cell? ⟨r.blk, 0, none⟩ = some (.map (some r.mb)) := by rw [← HH.out.blk, cell_of_row wz r.blk 0 _ _ _ hnA.cells, ← HH.out.mb]; rfl
      have hmA := hnA.map
      rw [HH.out.mb] at hmA
      have hrg : ∃ vv w', (Instr.range 84 (.map (some r.mb))).run Tryz.prog wz = .ok vv w' ∧ (vv = .pointer (some ⟨wz.heap.size, 0, none⟩) ∧ RIter .u8 w' wz.heap.size r.mb r.ch (r.ch.map Prod.fst) ∧ Tch [] wz w') := by
        obtain ⟨w', a1, a2, a3, -⟩ := hmA.range (P := Tryz.prog) (t := 84) (k := 5) (e := 71) Tryz.underlying84
        exact ⟨_, w', a1, rfl, a2, a3⟩
      have HRG := Lib.hid hrg
      have HSZ : Hid (w.heap.size ≤ wz.heap.size) := Lib.hid HH.out.t.size
      clear hrg hnA hmA
      go_wp2_with (at_range; refine wpList_range_run rfl _ 84 rfl _ rfl _ HRG.out ?_; rintro vv wi ⟨rfl, hit, ht⟩; go_frame)
      have HIT := Lib.hid hit
      have HHI : Hid (Half (DL (r.ch.map Prod.fst)) w base root N q r wi (cutN N0 q none r) r) := Lib.hid ((HH.out.more HUP.out (fun s hs b hb => by rw [hs] at hb; simp at hb) (fun s hs hd => by
        cases s with
        | none => exact absurd rfl hd
        | some b =>
          have hb := hs b rfl
          cases hN : (cutN N0 q none r) (q ++ [some b]) with
          | none => rfl
          | some c => exact absurd ((keys_of HH.out.tm HH.out.at_ b).1 (cont_ne.2 (by rw [hN]; simp))) hb)).go (Tof.of_tch (F := fun _ => False) ht (by simp)) (fun _ h => h.elim) HTM.out)
      clear hit ht
      go_loopg [] r.ch.length (fun nn wr => ∃ (left : List Int) (N1 : Net) (r1 : NRec), nn = left.length ∧ Hid (RIter .u8 wr wz.heap.size r.mb r1.ch left ∧ Half (DL left) w base root N q r wr N1 r1))
      case atStart => exact ⟨r.ch.map Prod.fst, (cutN N0 q none r), r, by simp, HIT.out, HHI.out⟩
      case round =>
        obtain ⟨left, N1, r1, rfl, HZ⟩ := hrel
        rename World => wr
        have hrb := HZ.out.1.ne_map
        rcases HZ.out.1.next (P := Tryz.prog) hrb 0 with ⟨hl, hrun⟩ | ⟨y, vv, w6, hk, hat, hrun, hit6, ht6, hsz6, hent⟩
        · have HE := Lib.hid (isEmpty_any HZ.out.2.tm HZ.out.2.at_)
          rw [HZ.out.2.blk] at HE
          have HZL := Lib.hid HZ.out.2
          rw [hl] at HZL
          clear hl hrb HZ hcA
          go_wp2_with fail
          refine HE.out.mono ?_
          rintro e wf ⟨b, rfl, rfl, hb⟩
          have HB := Lib.hid hb
          clear hb
          go_wp2_with fail
          go_ret
          exact ⟨N1, b, rfl, HZL.out.rem HTM.out HQ.out HB.out⟩
        · have hvv : vv = ptrO (N1 (q ++ [some y])) ∧ ∃ ch, N1 (q ++ [some y]) = some ch := by
            have hc := (HZ.out.2.tm.node _ _ HZ.out.2.at_).ch y
            rw [hat] at hc
            cases hN : N1 (q ++ [some y]) with
            | none => rw [hN] at hc; simp at hc
            | some ch => rw [hN] at hc; exact ⟨by simpa [ptrO] using hc, ch, rfl⟩
          obtain ⟨hvv, ch, hch⟩ := hvv
          rw [hch] at hvv
          simp only [ptrO] at hvv
          subst hvv
          have hll : (left.filter (· != y)).length < left.length := by
            rw [← Nat.not_le]
            intro hge
            have := List.filter_sublist.eq_of_length_le hge
            have hy2 : y ∈ left.filter (· != y) := by rw [this]; exact hk
            simp at hy2
          have HL6 := Lib.hid hll
          have HH6 := Lib.hid (HZ.out.2.go (F := fun k => k = wz.heap.size) (Tof.of_tch ht6 (fun k hm _ => by simpa using hm)) (fun k hk => by have := HSZ.out; omega) HTM.out)
          have HIT6 := Lib.hid hit6
          have HCA := Lib.hid (HCH.out (some y) w6 _ N1 r1 ch HH6.out hch)
          have HDD := Lib.hid (DL_step left y)
          have HDN := Lib.hid (DL_not hk)
          clear hk hll hit6 hat ht6 hsz6 hrb hch HZ
          go_wp2_with fail
          refine HCA.out.mono ?_
          rintro e w7 ⟨N2, b, rfl, hR⟩
          have HR := Lib.hid hR
          have HIT7 : Hid (RIter .u8 w7 wz.heap.size r.mb r1.ch (left.filter (· != y))) := Lib.hid (HIT6.out.tof hR.t (fun hf => by
            have h1 := (HTM.out.fp_lt (fpAt_all (HH6.out.fp _ _ hf))).2
            have h2 := HSZ.out
            omega) (by rw [← HH6.out.mb]; exact not_below HH6.out.tm HH6.out.at_ (.inr (.inl rfl)) _))
          clear hR hrun hent hcA
          cases b with
          | false =>
            go_wp2_with fail
            go_roundg (left.filter (· != y)).length
            case rel => exact ⟨left.filter (· != y), N2, r1, rfl, HIT7.out, HH6.out.keep HR.out HDD.out HDN.out⟩
            case measure => exact HL6.out
          | true =>
            have hq2 : N2 q = some r1 := by rw [HR.out.out q (q_not q _)]; exact HH6.out.at_
            have hn7 := HR.out.tm.node _ _ hq2
            have hc7 : w7.cell? ⟨r.blk, 0, none⟩ = some (.map (some r.mb)) := by rw [← HH6.out.blk, cell_of_row w7 r1.blk 0 _ _ _ hn7.cells, ← HH6.out.mb]; rfl
            have HDL : Hid (∀ ty, ∃ w8, (Builtin.delete_ #[84, 5] ty #[.map (some r.mb), .int .u8 y]).run Tryz.prog w7 = .ok (.tuple #[]) w8 ∧ (RIter .u8 w8 wz.heap.size r.mb (delL r1.ch y) (left.filter (· != y)) ∧ Half (DL (left.filter (· != y))) w base root N q r w8 (cutN N2 q (some y) { r1 with ch := delL r1.ch y }) { r1 with ch := delL r1.ch y })) := Lib.hid (fun ty => by
              obtain ⟨w8, a1, a2, a3, -⟩ := HIT7.out.delete HIT7.out.ne_map (P := Tryz.prog) (k := 5) (t := 84) (e := 71) Tryz.underlying5 Tryz.underlying84 y (by simp) ty
              refine ⟨w8, a1, a2, ?_⟩
              have hm8 := a2.map
              have a3' : Tch [r1.mb] w7 w8 := by rw [HH6.out.mb]; exact a3
              rw [← HH6.out.mb] at hm8
              obtain ⟨n1, n2⟩ := nd_cut_some hn7 a3' hm8
              exact HH6.out.strike HR.out HDD.out HDN.out rfl rfl rfl rfl n2 (fun k hk => .inr hk) n1)
            clear hq2 hn7
            go_wp2_with (at_delete; refine wpList_delete_run rfl _ _ 84 5 rfl _ _ rfl rfl _ (HDL.out _) ?_; rintro w8 ⟨q1, q2⟩; have HQ1 := Lib.hid q1; have HQ2 := Lib.hid q2; clear q1 q2)
            go_roundg (left.filter (· != y)).length
            case rel => exact ⟨left.filter (· != y), _, _, rfl, HQ1.out, HQ2.out⟩
            case measure => exact HL6.out

theorem rem_any : ∀ n, RemSays n := by
  intro n
  induction n using Nat.strongRecOn with
  | ind n ih => exact rem_step n ih

end Go.Proofs.YtcolffccbmpndaaGreatDoor
