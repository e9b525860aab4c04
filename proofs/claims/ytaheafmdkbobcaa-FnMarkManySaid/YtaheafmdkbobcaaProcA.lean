/- process: some indices begin, or are done. -/
import Derived.Test.YtaheafmdkbobcaaProc
namespace Go.Proofs.Ytaheafmdkbobcaa
open Go.RowKit

/-- All the indices that a mark bears. -/
def idxs (x : Int) (zs : List Int) : List Int := if 0 < x then x :: zs else zs

theorem Mk.inFp {B : Bk} {v : Value} {es : List (Int × Value)} {s : MSt} {fp : List Nat} (hf : ∀ k ∈ foot B v es s, k ∈ fp) :
    (B.wb ∈ fp ∧ B.pb ∈ fp ∧ B.qb ∈ fp) ∧ (∀ k, v.ownBlock = some k → k ∈ fp) ∧ (∀ p ∈ s.ws, p.1 ∈ fp) ∧ (∀ k ∈ rows es, k ∈ fp) := by
  refine ⟨⟨hf _ (by simp [foot]), hf _ (by simp [foot]), hf _ (by simp [foot])⟩, fun k hk => hf _ ?_, fun p hp => hf _ ?_, fun k hk => hf _ ?_⟩
  · simp only [foot, List.mem_cons, List.mem_append]; exact .inr (.inr (.inr (.inl (.inl (by rw [hk]; simp)))))
  · simp only [foot, List.mem_cons, List.mem_append]; exact .inr (.inr (.inr (.inl (.inr (List.mem_map.2 ⟨p, hp, rfl⟩)))))
  · simp only [foot, List.mem_cons, List.mem_append]; exact .inr (.inr (.inr (.inr hk)))

theorem idx_start {s : MSt} {x : Int} {zs : List Int} {dn : Bool} {N : Nat} (G : Good s N) (hok : okMany s (idxs x zs) dn) :
    ∃ s0, nextMany s (idxs x zs) dn = nextMany s0 zs dn ∧ s0.ws = s.ws ∧ okMany s0 zs dn ∧ Good s0 (N + 1) ∧ (0 < x → s0 = next1 s x dn ∧ ok1 s x dn) ∧ (¬ 0 < x → s0 = s) := by
  by_cases hx : 0 < x
  · have e : idxs x zs = x :: zs := by simp [idxs, hx]
    rw [e] at hok ⊢
    exact ⟨next1 s x dn, rfl, (next1_last s x dn).2, hok.2, (G.next hok.1).1, fun _ => ⟨rfl, hok.1⟩, fun h => absurd hx h⟩
  · have e : idxs x zs = zs := by simp [idxs, hx]
    rw [e] at hok ⊢
    exact ⟨s, rfl, rfl, hok, G.mono (by omega), fun h => absurd h hx, fun _ => rfl⟩

/-- The state after k of the indices. -/
theorem many_step {s : MSt} {zs : List Int} {dn : Bool} {k : Nat} (hk : k < zs.length) : nextMany s (zs.take (k + 1)) dn = next1 (nextMany s (zs.take k) dn) (zs.getD k 0) dn := by
  rw [List.take_succ_eq_append_getElem hk]
  simp only [nextMany, List.foldl_append, List.foldl_cons, List.foldl_nil]
  rw [List.getD_eq_getElem?_getD, List.getElem?_eq_getElem hk]; rfl
theorem many_ok {dn : Bool} : ∀ {zs : List Int} {s : MSt} {k : Nat} {N : Nat}, Good s N → okMany s zs dn → k ≤ zs.length → Good (nextMany s (zs.take k) dn) (N + k) ∧ okMany (nextMany s (zs.take k) dn) (zs.drop k) dn
  | zs, s, 0, N, G, h, _ => by simpa [nextMany] using ⟨G, h⟩
  | [], s, k + 1, N, G, h, hk => by simp at hk
  | z :: zs, s, k + 1, N, G, h, hk => by
    have := many_ok (k := k) (G.next h.1).1 h.2 (by simpa using hk)
    simp only [List.take_succ_cons, List.drop_succ_cons]
    have e : nextMany s (z :: zs.take k) dn = nextMany (next1 s z dn) (zs.take k) dn := rfl
    rw [e]
    exact ⟨this.1.mono (by omega), this.2⟩
theorem many_ok1 {dn : Bool} {zs : List Int} {s : MSt} {k : Nat} {N : Nat} (G : Good s N) (h : okMany s zs dn) (hk : k < zs.length) : ok1 (nextMany s (zs.take k) dn) (zs.getD k 0) dn := by
  have := (many_ok G h (Nat.le_of_lt hk)).2
  rw [List.drop_eq_getElem_cons hk] at this
  rw [List.getD_eq_getElem?_getD, List.getElem?_eq_getElem hk]
  exact this.1

set_option maxHeartbeats 4000000 in
set_option maxRecDepth 100000 in
theorem process_idx (x : Int) (zs : List Int) (dn : Bool) (a : Option Addr) (cz : Nat) (B : Bk) (fp : List Nat) (s : MSt) (w : World) (G : Good s 90000) (hzl : zs.length ≤ 5000) (hx0 : 0 ≤ x) (hxz : x = 0 → 0 < zs.length) (hok : okMany s (idxs x zs) dn)
    (hown : w.ownsRow 0 28 1 (.slice a zs.length cz) zs.length (U zs)) (hofp : ∀ k, (Value.slice a zs.length cz).ownBlock = some k → k ∉ fp) (h : MkAt w B fp s) :
    Calls Try.prog 33 #[ptr B.wb, .agg #[.int .u64 x, .pointer none, .slice a zs.length cz, .bool dn]] w fun e w' => e = .returned (.tuple #[]) ∧ Leaves1 w B fp (nextMany s (idxs x zs) dn) w' := by
  obtain ⟨s0, hst, hsw, hok0, hG0, hst1, hst2⟩ := idx_start G hok
  rw [hst]
  obtain ⟨v, hs, es, hm, hf⟩ := h
  have hmf : ∀ (fn : Fn) (first cap : Array Value) (w : World), (Instr.makeFunc fn first cap).run Try.prog w = .ok (.func fn first cap) w := fun _ _ _ _ => rfl
  have c0 : w.cell? ⟨B.wb, 3, none⟩ = some v := by rw [cell_of_row w B.wb _ _ 63 (0, 0) hm.str]; rfl
  obtain ⟨ad, cp, hv⟩ := ownsRow_slice hm.own
  have hlt := lt_of_obj hm.str
  rw [hv] at c0
  have HV := Lib.hid hv
  have HOK := Lib.hid hok0
  have HG0 := Lib.hid hG0
  have HG := Lib.hid G
  have HST1 := Lib.hid hst1
  have HST2 := Lib.hid hst2
  have HSW := Lib.hid hsw
  have HO := Lib.hid hown
  have HOF := Lib.hid hofp
  clear hv hok hok0 hG0 G hst hst1 hst2 hsw hown hofp
  go_enter_defers Try.func33, Try.ntmps33
  go_upto_region 3 with fail
  go_cut [5, 6] from 13 (fun s5 s6 wx => ∃ p q, s5 = ptr p ∧ s6 = ptr q ∧ Boxes w B #[.int .u64 x, .pointer none, .slice a zs.length cz, .bool dn] (.slice ad hs.length cp) p q wx)
  case first =>
    obtain ⟨W3, hW3, hsz, t3, d0, d1, d2⟩ := three_boxes w B #[.int .u64 x, .pointer none, .slice a zs.length cz, .bool dn] (.slice ad hs.length cp)
    rw [hW3]
    have m3 := t3.obj hm.str (by simp)
    have e1 : W3.cell? ⟨B.wb, 4, none⟩ = some (.map (some B.pb)) := by rw [cell_of_row W3 B.wb _ _ 63 (0, 0) m3]; rfl
    have e2 : W3.cell? ⟨B.wb, 5, none⟩ = some (.map (some B.qb)) := by rw [cell_of_row W3 B.wb _ _ 63 (0, 0) m3]; rfl
    have e0 := cell_of_one d0
    have hlt3 : B.wb < W3.heap.size := by omega
    have hlt4 : w.heap.size < W3.heap.size := by omega
    have HK : Hid (∀ p q wx, Tch [] W3 wx → wx.heap[p]? = some (.cells #[.map (some B.pb)] 59 (0, 0)) → wx.heap[q]? = some (.cells #[.map (some B.qb)] 60 (0, 0)) → W3.heap.size ≤ p → W3.heap.size ≤ q → Boxes w B #[.int .u64 x, .pointer none, .slice a zs.length cz, .bool dn] (.slice ad hs.length cp) p q wx) :=
      fun p q wx t b3 b4 hp hq => Boxes.of hsz t3 d0 d1 d2 t b3 b4 hp hq
    clear hW3 hsz t3 d0 d1 d2 m3 c0 hm hf hmf HG HG0 HOK HST1 HST2 HSW HO HOF HV
    go_region
    all_goals (go_wp2_with fail; go_meet)
    all_goals first
      | (obtain ⟨a1, a2, a3⟩ := two_a (W3 := W3) (o := .cells #[.map (some B.pb)] 59) (o' := .cells #[.map (some B.qb)] 60) (wx := ((W3.alloc (.cells #[.map (some B.pb)] 59)).alloc (.cells #[.map (some B.qb)] 60)).drew) ⟨rfl, rfl, rfl⟩; exact ⟨W3.heap.size, W3.heap.size + 1, rfl, rfl, HK.out _ _ _ a1 a2 a3 (Nat.le_refl _) (Nat.le_succ _)⟩)
      | (obtain ⟨a1, a2, a3⟩ := two_a (W3 := W3) (o := .cells #[.map (some B.qb)] 60) (o' := .cells #[.map (some B.pb)] 59) (wx := ((W3.alloc (.cells #[.map (some B.qb)] 60)).alloc (.cells #[.map (some B.pb)] 59)).drew) ⟨rfl, rfl, rfl⟩; exact ⟨W3.heap.size + 1, W3.heap.size, rfl, rfl, HK.out _ _ _ a1 a3 a2 (Nat.le_succ _) (Nat.le_refl _)⟩)
  case rest =>
    obtain ⟨p, q, rfl, rfl, hbx⟩ := hcut
    obtain ⟨i1, i2, i3, i4⟩ := Mk.inFp hf
    have k0 : wc.cell? ⟨w.heap.size + 1, 0, none⟩ = some (.int .u64 x) := by rw [cell_of_row wc _ _ _ 66 (0, 0) hbx.b1]; rfl
    have k1 : wc.cell? ⟨w.heap.size + 1, 1, none⟩ = some (.pointer none) := by rw [cell_of_row wc _ _ _ 66 (0, 0) hbx.b1]; rfl
    have k2 : wc.cell? ⟨w.heap.size + 1, 2, none⟩ = some (.slice a zs.length cz) := by rw [cell_of_row wc _ _ _ 66 (0, 0) hbx.b1]; rfl
    have k3 : wc.cell? ⟨w.heap.size + 1, 3, none⟩ = some (.bool dn) := by rw [cell_of_row wc _ _ _ 66 (0, 0) hbx.b1]; rfl
    have hinr := hm.inr hbx.t (w.heap.size + 1 + 1) p w.heap.size q (by rw [HV.out]; exact hbx.b2) hbx.b3 hbx.b0 hbx.b4
    have hmid : Mid w B fp ⟨B.wb, B.pb, B.qb, w.heap.size + 1 + 1, p, w.heap.size, q⟩ v v es (w.heap.size + 1) #[.int .u64 x, .pointer none, .slice a zs.length cz, .bool dn] s wc :=
      ⟨⟨v, hs, es, hinr, hm.perm, hm.heap, fun _ hk => hk, .inl rfl⟩, hbx.t.mono (by simp), hbx.b1⟩
    have HMID := Lib.hid hmid
    have HES := Lib.hid i4
    clear hm hf hmf hmid hinr i4
    by_cases hx : 0 < x
    · have hd0 : decide (0 < x) = true := by simpa using hx
      have hd1 : (x == 0) = false := by simp; omega
      go_wp2_with (go_at_call 36; refine (HMID.out.step ⟨i1.1, i1.2.1, i1.2.2⟩ (by simp; omega) i2 i3 x dn (HG.out.mono (by omega)) (HST1.out hx).2).mono ?_; rintro e w1 ⟨rfl, hm1⟩; rw [← (HST1.out hx).1] at hm1; have q2 : w1.cell? ⟨w.heap.size + 1, 2, none⟩ = some (.slice a zs.length cz) := (by rw [cell_of_row w1 _ _ _ 66 (0, 0) hm1.box]; rfl))
      have hms : Mid w B fp ⟨B.wb, B.pb, B.qb, w.heap.size + 1 + 1, p, w.heap.size, q⟩ v v es (w.heap.size + 1) #[.int .u64 x, .pointer none, .slice a zs.length cz, .bool dn] s0 w1 := hm1
      go_loopg [88] zs.length (fun n s88 wr => ∃ k : Nat, k ≤ zs.length ∧ n = zs.length - k ∧ s88 = .int .i64 k ∧ Mid w B fp ⟨B.wb, B.pb, B.qb, w.heap.size + 1 + 1, p, w.heap.size, q⟩ v v es (w.heap.size + 1) #[.int .u64 x, .pointer none, .slice a zs.length cz, .bool dn] (nextMany s0 (zs.take k) dn) wr)
      case atStart => exact ⟨0, Nat.zero_le _, by omega, rfl, hms⟩
      case round =>
        obtain ⟨k, hk, rfl, rfl, hmk⟩ := hrel
        clear hms k0 k1 k2 k3
        by_cases hlt2 : k < zs.length
        · obtain ⟨g, cg, hae, hcg, hgl⟩ := ownsRow_value HO.out (by omega)
          simp only [Value.slice.injEq, true_and] at hae
          obtain ⟨rfl, rfl⟩ := hae
          have hown' := hmk.t.own HO.out (HOF.out)
          have kz := cellOf hown' hlt2
          have kd : wr.cell? ⟨w.heap.size + 1, 3, none⟩ = some (.bool dn) := by rw [cell_of_row wr _ _ _ 66 (0, 0) hmk.box]; rfl
          have hlt3 : (k : Int) < zs.length := by omega
          have hws3 : ∀ p ∈ (nextMany s0 (zs.take k) dn).ws, p.1 ∈ fp := by rw [(nextMany_last _ _ _).2, HSW.out]; exact i3
          have HSTP := Lib.hid (hmk.step ⟨i1.1, i1.2.1, i1.2.2⟩ (by simp; omega) i2 hws3 (zs.getD k 0) dn ((many_ok HG0.out HOK.out (Nat.le_of_lt hlt2)).1.mono (by omega)) (many_ok1 HG0.out HOK.out hlt2))
          have HST3 := Lib.hid (many_step (s := s0) (dn := dn) hlt2)
          clear hown' hws3
          generalize hzk : zs.getD k 0 = zk at *
          have HZK := Lib.hid hzk
          clear hzk
          go_wp2_with (go_at_call 36; refine HSTP.out.mono ?_; rintro e w2 ⟨rfl, hm2⟩)
          go_roundg (zs.length - (k + 1))
          case rel => exact ⟨k + 1, by omega, rfl, by go_num, by rw [HST3.out]; exact hm2⟩
          case measure => omega
        · have hke : k = zs.length := by omega
          have hws3 : ∀ p ∈ (nextMany s0 zs dn).ws, p.1 ∈ fp := by rw [(nextMany_last _ _ _).2, HSW.out]; exact i3
          rw [hke, List.take_length] at hmk
          obtain ⟨a', n', c', m1, m2, ⟨old, m3⟩, m4, m5⟩ := hmk.fin ⟨rfl, rfl, rfl⟩ ⟨i1.1, i1.2.1, i1.2.2⟩ i2 hws3 HES.out
          have hnl : decide ((k : Int) < zs.length) = false := by simp; omega
          have HLV := Lib.hid m5
          clear m5 hws3 hmk hke
          go_wp2_with fail
          refine leaves_cons (f := 35) (args := #[ptr (w.heap.size + 1 + 1), ptr w.heap.size]) (by simp) (by simp [go_sem]) ?_
          refine (put_back _ _ B.wb n' c' a' old .returning _ m1 m2 m3 m4).mono ?_
          rintro e u' w'' ⟨rfl, rfl, rfl⟩
          exact ⟨_, results_none rfl _ _ _, rfl, HLV.out⟩
    · have hx00 : x = 0 := by omega
      have hd0 : decide (0 < x) = false := by simpa using hx
      have hd1 : (x == 0) = true := by simpa using hx00
      have hd2 : ((zs.length : Int) == 0) = false := by have := hxz hx00; rw [beq_eq_false_iff_ne]; omega
      clear hx00 hxz
      go_wp2_with fail
      have hms : Mid w B fp ⟨B.wb, B.pb, B.qb, w.heap.size + 1 + 1, p, w.heap.size, q⟩ v v es (w.heap.size + 1) #[.int .u64 x, .pointer none, .slice a zs.length cz, .bool dn] s0 wc := (HST2.out hx) ▸ HMID.out
      go_loopg [88] zs.length (fun n s88 wr => ∃ k : Nat, k ≤ zs.length ∧ n = zs.length - k ∧ s88 = .int .i64 k ∧ Mid w B fp ⟨B.wb, B.pb, B.qb, w.heap.size + 1 + 1, p, w.heap.size, q⟩ v v es (w.heap.size + 1) #[.int .u64 x, .pointer none, .slice a zs.length cz, .bool dn] (nextMany s0 (zs.take k) dn) wr)
      case atStart => exact ⟨0, Nat.zero_le _, by omega, rfl, hms⟩
      case round =>
        obtain ⟨k, hk, rfl, rfl, hmk⟩ := hrel
        clear hms k0 k1 k2 k3
        by_cases hlt2 : k < zs.length
        · obtain ⟨g, cg, hae, hcg, hgl⟩ := ownsRow_value HO.out (by omega)
          simp only [Value.slice.injEq, true_and] at hae
          obtain ⟨rfl, rfl⟩ := hae
          have hown' := hmk.t.own HO.out (HOF.out)
          have kz := cellOf hown' hlt2
          have kd : wr.cell? ⟨w.heap.size + 1, 3, none⟩ = some (.bool dn) := by rw [cell_of_row wr _ _ _ 66 (0, 0) hmk.box]; rfl
          have hlt3 : (k : Int) < zs.length := by omega
          have hws3 : ∀ p ∈ (nextMany s0 (zs.take k) dn).ws, p.1 ∈ fp := by rw [(nextMany_last _ _ _).2, HSW.out]; exact i3
          have HSTP := Lib.hid (hmk.step ⟨i1.1, i1.2.1, i1.2.2⟩ (by simp; omega) i2 hws3 (zs.getD k 0) dn ((many_ok HG0.out HOK.out (Nat.le_of_lt hlt2)).1.mono (by omega)) (many_ok1 HG0.out HOK.out hlt2))
          have HST3 := Lib.hid (many_step (s := s0) (dn := dn) hlt2)
          clear hown' hws3
          generalize hzk : zs.getD k 0 = zk at *
          have HZK := Lib.hid hzk
          clear hzk
          go_wp2_with (go_at_call 36; refine HSTP.out.mono ?_; rintro e w2 ⟨rfl, hm2⟩)
          go_roundg (zs.length - (k + 1))
          case rel => exact ⟨k + 1, by omega, rfl, by go_num, by rw [HST3.out]; exact hm2⟩
          case measure => omega
        · have hke : k = zs.length := by omega
          have hws3 : ∀ p ∈ (nextMany s0 zs dn).ws, p.1 ∈ fp := by rw [(nextMany_last _ _ _).2, HSW.out]; exact i3
          rw [hke, List.take_length] at hmk
          obtain ⟨a', n', c', m1, m2, ⟨old, m3⟩, m4, m5⟩ := hmk.fin ⟨rfl, rfl, rfl⟩ ⟨i1.1, i1.2.1, i1.2.2⟩ i2 hws3 HES.out
          have hnl : decide ((k : Int) < zs.length) = false := by simp; omega
          have HLV := Lib.hid m5
          clear m5 hws3 hmk hke
          go_wp2_with fail
          refine leaves_cons (f := 35) (args := #[ptr (w.heap.size + 1 + 1), ptr w.heap.size]) (by simp) (by simp [go_sem]) ?_
          refine (put_back _ _ B.wb n' c' a' old .returning _ m1 m2 m3 m4).mono ?_
          rintro e u' w'' ⟨rfl, rfl, rfl⟩
          exact ⟨_, results_none rfl _ _ _, rfl, HLV.out⟩

end Go.Proofs.Ytaheafmdkbobcaa
