/- How many nodes there are: plain, and numNodes walked. -/
import Derived.Test.YtcolffccbmpndaaGreatDoorTrH
namespace Go.Proofs.YtcolffccbmpndaaGreatDoor
open Go.RowKit Go.Deep
set_option maxRecDepth 100000

theorem sum_zero {l : List Nat} (h : ∀ z ∈ l, z = 0) : l.sum = 0 := by
  induction l with
  | nil => rfl
  | cons a t ih => rw [List.sum_cons, h a (by simp), ih (fun z hz => h z (by simp [hz]))]
/-- How many of the paths begin with q. -/
def cntP (PS : List Path) (q : Path) : Nat := (PS.map (fun p => if q <+: p then 1 else 0)).sum
theorem cntP_le (PS : List Path) (q : Path) : cntP PS q ≤ PS.length := by
  unfold cntP
  induction PS with
  | nil => simp
  | cons p t ih => simp only [List.map_cons, List.sum_cons, List.length_cons]; split <;> omega
theorem sum_one {x : Int} : ∀ {l : List Int}, l.Nodup → x ∈ l → (l.map (fun b => if b = x then 1 else 0)).sum = 1
  | [], _, h => by simp at h
  | y :: l, hn, h => by
    simp only [List.nodup_cons] at hn
    simp only [List.map_cons, List.sum_cons]
    by_cases e : y = x
    · subst e
      have : (l.map (fun b => if b = y then 1 else 0)).sum = 0 := by
        apply sum_zero
        intro z hz
        obtain ⟨b, hb, rfl⟩ := List.mem_map.1 hz
        rw [if_neg (fun e => hn.1 (by rw [← e]; exact hb))]
      simp [this]
    · rw [if_neg e, sum_one hn.2 (by simpa [Ne.symm e] using h)]
theorem sum_strike {g : Int → Nat} {x : Int} : ∀ {l : List Int}, l.Nodup → x ∈ l → (l.map g).sum = g x + ((l.filter (· != x)).map g).sum
  | [], _, h => by simp at h
  | y :: l, hn, h => by
    simp only [List.nodup_cons] at hn
    simp only [List.map_cons, List.sum_cons]
    by_cases e : y = x
    · subst e
      have : l.filter (· != y) = l := by
        rw [List.filter_eq_self]
        intro z hz
        have : z ≠ y := fun e => hn.1 (by rw [← e]; exact hz)
        simpa using this
      rw [List.filter_cons_of_neg (by simp), this]
    · rw [List.filter_cons_of_pos (by simpa using e), List.map_cons, List.sum_cons, sum_strike hn.2 (by simpa [Ne.symm e] using h)]
      omega
theorem sum_zero_of {l : List Int} {g : Int → Nat} (h : ∀ b ∈ l, g b = 0) : (l.map g).sum = 0 := by
  apply sum_zero
  intro z hz
  obtain ⟨b, hb, rfl⟩ := List.mem_map.1 hz
  exact h b hb
theorem not_pre_snoc {q : Path} {s : Hop} : ¬ (q ++ [s]) <+: q := fun h => by
  have := h.length_le
  rw [List.length_append, List.length_singleton] at this
  omega
theorem pre_same {q t : Path} {s u : Hop} (h : (q ++ [u]) <+: q ++ s :: t) : u = s := by
  obtain ⟨v, hv⟩ := h
  rw [List.append_assoc] at hv
  have := List.append_cancel_left hv
  simp at this
  exact this.1

theorem cnt_split {C : Cont} (hu : Up C) {PS : List Path} (hn : PS.Nodup) (hm : ∀ p, p ∈ PS ↔ C p ≠ none) {q : Path} (hq : C q ≠ none) {keys : List Int} (hk : keys.Nodup) (hks : ∀ b, C (q ++ [some b]) ≠ none → b ∈ keys) :
    cntP PS q = 1 + cntP PS (q ++ [none]) + (keys.map (fun b => cntP PS (q ++ [some b]))).sum := by
  have one : ∀ p, C p ≠ none → (if q <+: p then 1 else 0) = (if p = q then 1 else 0) + (if (q ++ [none]) <+: p then 1 else 0) + (keys.map (fun b => if (q ++ [some b]) <+: p then 1 else 0)).sum := by
    intro p hp
    by_cases h0 : q <+: p
    · obtain ⟨t, rfl⟩ := h0
      cases t with
      | nil =>
        rw [List.append_nil, if_pos (List.prefix_refl q), if_pos rfl, if_neg not_pre_snoc, sum_zero_of (fun b _ => if_neg not_pre_snoc)]
      | cons s t =>
        rw [if_pos (List.prefix_append _ _), if_neg (fun e => by simpa using congrArg List.length e)]
        cases s with
        | none =>
          rw [if_pos ⟨t, by simp⟩, sum_zero_of (fun b _ => if_neg (fun h => by have := pre_same h; simp at this))]
        | some b0 =>
          have hb : b0 ∈ keys := hks b0 (hu.pre ⟨t, by simp⟩ hp)
          rw [if_neg (fun h => by have := pre_same h; simp at this)]
          have e : (keys.map (fun b => if (q ++ [some b]) <+: q ++ some b0 :: t then 1 else 0)) = keys.map (fun b => if b = b0 then 1 else 0) := by
            apply List.map_congr_left
            intro b _
            by_cases e : b = b0
            · subst e; rw [if_pos ⟨t, by simp⟩, if_pos rfl]
            · rw [if_neg (fun h => e (by simpa using pre_same h)), if_neg e]
          rw [e, sum_one hk hb]
    · rw [if_neg h0, if_neg (fun e => h0 (by rw [e]; exact List.prefix_refl _)), if_neg (fun h => h0 ((List.prefix_append _ _).trans h)), sum_zero_of (fun b _ => if_neg (fun h => h0 ((List.prefix_append _ _).trans h)))]
  have sum1 : ∀ L : List Path, (∀ p ∈ L, C p ≠ none) → cntP L q = (L.map (fun p => if p = q then 1 else 0)).sum + cntP L (q ++ [none]) + (keys.map (fun b => cntP L (q ++ [some b]))).sum := by
    intro L
    induction L with
    | nil => intro _; simp [cntP, sum_zero_of]
    | cons p t ih =>
      intro hl
      have h1 := ih (fun x hx => hl x (by simp [hx]))
      have h2 := one p (hl p (by simp))
      have h3 : (keys.map (fun b => cntP (p :: t) (q ++ [some b]))).sum = (keys.map (fun b => if (q ++ [some b]) <+: p then 1 else 0)).sum + (keys.map (fun b => cntP t (q ++ [some b]))).sum := by
        clear h1 h2 ih hk hks one
        induction keys with
        | nil => simp
        | cons k ks ih2 =>
          simp only [List.map_cons, List.sum_cons, ih2]
          unfold cntP
          simp only [List.map_cons, List.sum_cons]
          omega
      rw [h3]
      unfold cntP at *
      simp only [List.map_cons, List.sum_cons]
      omega
  rw [sum1 PS (fun p hp => (hm p).1 hp)]
  have : (PS.map (fun p => if p = q then 1 else 0)).sum = 1 := by
    have hin : q ∈ PS := (hm q).2 hq
    clear sum1 one hm
    induction PS with
    | nil => simp at hin
    | cons p t ih =>
      simp only [List.nodup_cons] at hn
      simp only [List.map_cons, List.sum_cons]
      by_cases e : p = q
      · subst e
        have : (t.map (fun x => if x = p then 1 else 0)).sum = 0 := by
          apply sum_zero
          intro z hz
          obtain ⟨b, hb, rfl⟩ := List.mem_map.1 hz
          rw [if_neg (fun e => hn.1 (by rw [← e]; exact hb))]
        simp [this]
      · rw [if_neg e, ih hn.2 (by simpa [Ne.symm e] using hin)]
  rw [this]
theorem cnt_zero {C : Cont} (hu : Up C) {PS : List Path} (hm : ∀ p, p ∈ PS ↔ C p ≠ none) {q : Path} (hq : C q = none) : cntP PS q = 0 := by
  unfold cntP
  apply sum_zero
  intro z hz
  obtain ⟨p, hp, rfl⟩ := List.mem_map.1 hz
  rw [if_neg (fun h => hu.pre h ((hm p).1 hp) hq)]

theorem ret_int {k : IntKind} {a b : Int} (h : a = b) : Ending.returned (.int k a) = .returned (.int k b) := by rw [h]
theorem numNil_any (w : World) : Calls Tryz.prog 46 #[.pointer none] w fun e w' => e = .returned (.int .i64 ((0 : Nat) : Int)) ∧ w' = w := by
  go_enter Tryz.func46, Tryz.ntmps46
  go_wp2_with fail
  go_ret
  exact ⟨rfl, rfl⟩

theorem keys_of {w : World} {base root : Nat} {N : Net} (h : TM w base root N) {q : Path} {r : NRec} (hq : N q = some r) (b : Int) : cont N (q ++ [some b]) ≠ none ↔ b ∈ r.ch.map Prod.fst := by
  have hc := (h.node q r hq).ch b
  rw [cont_ne]
  constructor
  · intro hn
    cases hN : N (q ++ [some b]) with
    | none => exact absurd hN hn
    | some c =>
      rw [hN] at hc
      unfold at? at hc
      cases hf : r.ch.find? (fun p => p.1 == b) with
      | none => rw [hf] at hc; simp at hc
      | some p => exact List.mem_map.2 ⟨p, List.mem_of_find?_eq_some hf, by simpa using List.find?_some hf⟩
  · intro hb hn
    rw [hn, Option.map_none, at?_none] at hc
    obtain ⟨p, hp, rfl⟩ := List.mem_map.1 hb
    exact hc p hp rfl

/-- What a call of numNodes tells, where at most n nodes are below. -/
def NumSays (n : Nat) : Prop := ∀ (w : World) (base root : Nat) (N : Net), TM w base root N → ∀ (PS : List Path), PS.Nodup → (∀ p, p ∈ PS ↔ cont N p ≠ none) → PS.length ≤ 100000000 → ∀ (q : Path) (r : NRec), N q = some r → cntP PS q ≤ n →
  Calls Tryz.prog 46 #[ptr r.blk] w fun e w' => e = .returned (.int .i64 (cntP PS q : Int)) ∧ Tch [] w w'

set_option maxHeartbeats 4000000 in
theorem num_step (n : Nat) (IH : ∀ m, m < n → NumSays m) : NumSays n := by
  intro w base root N h PS hnd hmem hps q r hq hcn
  have hsp := cnt_split h.up hnd hmem (q := q) (cont_ne.2 (by rw [hq]; simp)) (keys := r.ch.map Prod.fst) (h.node q r hq).map.nodup (fun b hb => (keys_of h hq b).1 hb)
  have HCH : Hid (∀ s w', Tch [] w w' → Calls Tryz.prog 46 #[ptrO (N (q ++ [s]))] w' fun e w'' => e = .returned (.int .i64 (cntP PS (q ++ [s]) : Int)) ∧ Tch [] w' w'') := Lib.hid (fun s w' t => by
    cases hN : N (q ++ [s]) with
    | none =>
      rw [cnt_zero h.up hmem (cont_none.2 hN)]
      exact (numNil_any w').mono (fun e w'' ⟨h1, h2⟩ => ⟨h1, by rw [h2]; exact Tch.refl _ _⟩)
    | some c =>
      have hlt : cntP PS (q ++ [s]) < cntP PS q := by
        cases s with
        | none => omega
        | some b =>
          have hb := (keys_of h hq b).1 (cont_ne.2 (by rw [hN]; simp))
          have := sum_strike (g := fun b => cntP PS (q ++ [some b])) (h.node q r hq).map.nodup hb
          omega
      exact IH _ (by omega) w' base root N (h.tch t) PS hnd hmem hps (q ++ [s]) c hN (Nat.le_refl _))
  have hn := h.node q r hq
  have HND := Lib.hid hn
  have HSP := Lib.hid hsp
  have HCL := Lib.hid (cntP_le PS q)
  have HPS := Lib.hid hps
  have hc0 : w.cell? ⟨r.blk, 0, none⟩ = some (.map (some r.mb)) := by rw [cell_of_row w r.blk 0 _ _ _ hn.cells]; rfl
  have hc1 : w.cell? ⟨r.blk, 1, none⟩ = some (ptrO (N (q ++ [none]))) := by rw [cell_of_row w r.blk 1 _ _ _ hn.cells]; rfl
  have HC0 := Lib.hid hc0
  clear hnd hmem hps IH hcn hsp hq h
  go_enter Tryz.func46, Tryz.ntmps46
  go_wp2_with fail
  refine (HCH.out none _ (Tch.refl _ _)).mono ?_
  rintro e w1 ⟨rfl, t1⟩
  have HT1 := Lib.hid t1
  clear t1 hc0 hc1
  have hc0 := cell_tch HC0.out HT1.out
  have hrg : ∃ vv w', (Instr.range 84 (.map (some r.mb))).run Tryz.prog w1 = .ok vv w' ∧ (vv = .pointer (some ⟨w1.heap.size, 0, none⟩) ∧ RIter .u8 w' w1.heap.size r.mb r.ch (r.ch.map Prod.fst) ∧ Tch [] w1 w') := by
    obtain ⟨w', a1, a2, a3, -⟩ := (HND.out.map.tch HT1.out (by simp)).range (P := Tryz.prog) (t := 84) (k := 5) (e := 71) Tryz.underlying84
    exact ⟨_, w', a1, rfl, a2, a3⟩
  have HRG := Lib.hid hrg
  clear hrg
  generalize hn0 : cntP PS (q ++ [none]) = n0 at *
  have HN0 := Lib.hid hn0
  clear hn0
  go_wp2_with (at_range; refine wpList_range_run rfl _ 84 rfl _ rfl _ HRG.out ?_; rintro vv wi ⟨rfl, hit, ht⟩; go_frame)
  have HIT := Lib.hid hit
  have HTI := Lib.hid (HT1.out.trans ht)
  clear hit ht
  go_loopg [3] r.ch.length (fun nn s3 wr => ∃ (left : List Int) (c : Nat), nn = left.length ∧ s3 = .int .i64 c ∧ Hid (RIter .u8 wr w1.heap.size r.mb r.ch left ∧ left.Nodup ∧ c + (left.map (fun b => cntP PS (q ++ [some b]))).sum + 1 = cntP PS q ∧ Tch [] w wr))
  case atStart =>
    refine ⟨r.ch.map Prod.fst, n0, by simp, rfl, HIT.out, HND.out.map.nodup, ?_, HTI.out⟩
    have := HSP.out
    omega
  case round =>
    obtain ⟨left, c, rfl, rfl, HZ⟩ := hrel
    rename World => wr
    have hcI : (c : Int) + 1 ≤ 100000000 := by have := HZ.out.2.2.1; have := HCL.out; have := HPS.out; omega
    have hrb := HZ.out.1.ne_map
    rcases HZ.out.1.next (P := Tryz.prog) hrb 0 with ⟨hl, hrun⟩ | ⟨y, vv, w6, hk, hat, hrun, hit6, ht6, hsz6, hent⟩
    · have HE : Hid (c + 1 = cntP PS q ∧ Tch [] w wr) := Lib.hid (by
        have := HZ.out.2.2.1
        rw [hl] at this
        exact ⟨by simpa using this, HZ.out.2.2.2⟩)
      clear hl hrb HZ hc0
      go_wp2_with fail
      go_ret
      exact ⟨ret_int (by rw [← HE.out.1]; rfl), HE.out.2⟩
    · have T6 : Tch [] w w6 := HZ.out.2.2.2.then ht6 (fun i hi hm => by have := List.mem_singleton.1 hm; have := HT1.out.size; omega)
      have hvv : vv = ptrO (N (q ++ [some y])) := by
        have hc := HND.out.ch y
        rw [hat] at hc
        cases hN : N (q ++ [some y]) with
        | none => rw [hN] at hc; simp at hc
        | some ch => rw [hN] at hc; simpa [ptrO] using hc
      have hll : (left.filter (· != y)).length < left.length := by
        rw [← Nat.not_le]
        intro hge
        have := List.filter_sublist.eq_of_length_le hge
        have hy2 : y ∈ left.filter (· != y) := by rw [this]; exact hk
        simp at hy2
      have HY : Hid (c + cntP PS (q ++ [some y]) + ((left.filter (· != y)).map (fun b => cntP PS (q ++ [some b]))).sum + 1 = cntP PS q ∧ (left.filter (· != y)).Nodup ∧ (left.filter (· != y)).length < left.length) := Lib.hid (by
        have h1 := sum_strike (g := fun b => cntP PS (q ++ [some b])) HZ.out.2.1 hk
        have h2 := HZ.out.2.2.1
        exact ⟨by omega, HZ.out.2.1.filter _, hll⟩)
      have HIT6 := Lib.hid hit6
      have HT6 := Lib.hid T6
      subst hvv
      clear hk hll hit6 T6 hat ht6 hsz6 hrb HZ
      go_wp2_with fail
      refine (HCH.out (some y) _ HT6.out).mono ?_
      rintro e w7 ⟨rfl, t7⟩
      have HT7 := Lib.hid t7
      have hyI : (c : Int) + (cntP PS (q ++ [some y]) : Int) + 1 ≤ 100000000 := by have := HY.out.1; have := HCL.out; have := HPS.out; omega
      clear t7 hrun hent
      generalize cntP PS (q ++ [some y]) = cy at *
      go_wp2_with fail
      go_roundg (left.filter (· != y)).length
      case rel => exact ⟨left.filter (· != y), c + cy, rfl, by go_num, HIT6.out.tch HT7.out (by simp) (by simp), HY.out.2.1, HY.out.1, HT6.out.trans HT7.out⟩
      case measure => exact HY.out.2.2

theorem num_any : ∀ n, NumSays n := by
  intro n
  induction n using Nat.strongRecOn with
  | ind n ih => exact num_step n ih

end Go.Proofs.YtcolffccbmpndaaGreatDoor
