/- impl.Targets. -/
import Derived.Test.YtdofgamahjmohaaLwG
namespace Go.Proofs.Ytdofgamahjmohaa
open Go.RowKit
set_option maxRecDepth 100000

/-- append of many elements. -/
theorem own_apps {t e ty : TypeId} {i0 : TypeInfo} {z : Value} {sz bytes : Nat} (u : Try.prog.underlying t = some (.slice e)) (hi : Try.prog.info? e = some i0) (hz : i0.zero = some z) (hsz : i0.size = sz) (hby : i0.bytes = bytes) (hzs : z.cells.size = sz) (hpos : 0 < sz) (hb : bytes ≤ 1000)
    {w0 w : World} {v : Value} {n : Nat} {xs : List Value} (ad : Addr) (m c : Nat) (news : List Value) (h : Own w0 w e sz v n xs) (hn : n + m ≤ 100000000) (hl : news.length = m * sz) (hc : ∀ j x, news[j]? = some x → w.cell? (ad.add j) = some x) (h1 : ∀ x ∈ news, x.oneCell' = true) :
    ∃ v' w', (Builtin.append_ #[t, t] ty #[v, .slice (some ad) m c]).run Try.prog w = .ok v' w' ∧ Own w0 w' e sz v' (n + m) (xs ++ news) ∧ Tch v.ownBlock.toList w w' := by
  have hb2 : (n + m) * bytes ≤ 140737488355328 := Nat.le_trans (Nat.mul_le_mul hn hb) (by omega)
  obtain ⟨v', w', hrun, ho, hg, -, hloc⟩ := run_append_own_at (P := Try.prog) (w := w) w0.heap.size t ty e i0 z sz bytes u hi hz hsz hby hzs hpos v n xs h.row ad m c news hl hc h1 (by unfold maxLen; omega) hb2 h.t.size
  have hT : Tch v.ownBlock.toList w w' := ⟨hg.os, hg.output, hg.size, fun k hk hk2 => hg.block k hk (by simpa [Option.mem_toList, eq_comm] using hk2)⟩
  have hT0 : Tch [] w0 w' := ⟨hT.os.trans h.t.os, hT.output.trans h.t.output, Nat.le_trans h.t.size hg.size, fun k hk _ => by
    rw [hT.block k (Nat.lt_of_lt_of_le hk h.t.size) (fun hm => by have := (h.row.lt k (by simpa [Option.mem_toList] using hm)).1; omega), h.t.block k hk (by simp)]⟩
  exact ⟨v', w', hrun, ⟨hT0, ho⟩, hT⟩

theorem arr_list (n : Nat) (f : Nat → Int) : (arr n f).toList = ((List.range n).map f).map (Value.int .i64) := by
  unfold arr
  simp

/-- Numbers of a row of the call's own, read. -/
theorem own_iat {w : World} {b : Nat} {a : Option Addr} {n c : Nat} {f : Nat → Int} (h : w.ownsRow b 2 1 (.slice a n c) n (arr n f).toList) : IAt w ((List.range n).map f) a := by
  refine ⟨fun e => ?_, fun ad e j hj => ?_⟩
  · subst e
    obtain ⟨-, ⟨-, h2⟩ | ⟨g, cap, cur, h2, -⟩⟩ := h
    · subst h2; rfl
    · simp at h2
  · subst e
    have hj2 : j < n := by simpa using hj
    have := own_cell h (j := j) (u := .int .i64 (f j)) (by rw [Array.getElem?_toList, arr_at hj2])
    have e2 : ((List.range n).map f).getD j 0 = f j := by simp [List.getD, hj2]
    rw [e2]
    exact this

set_option maxHeartbeats 1000000 in
theorem targets_any (LL : List (List Tb)) (la : Option Addr) (c : Nat) (o : Op) (w : World) (h : LvAt w LL la c) (hsh : ∀ ts ∈ LL, ∀ t ∈ ts, t.short) (hv : Valid LL o) :
    Calls Try.prog 14 #[.slice la LL.length c, opV o] w fun e w' => ∃ (b : Nat) (a1 a2 : Option Addr) (c1 c2 : Nat), e = .returned (.tuple #[.int .i64 b, .slice a1 LL.length c1, .slice a2 LL.length c2]) ∧
      IAt w' ((List.range LL.length).map (tgs LL o)) a1 ∧ IAt w' ((List.range LL.length).map (fsz o.tt o.bt o.mt b)) a2 ∧ Based LL o b ∧ Tch [] w w' := by
  have n7 := hv.op.n7
  have HMD := Lib.hid (fun w' (t : Tch [] w w') => made_valid LL la c o w' (h.tch t) hsh hv)
  have HLT := Lib.hid (fun gL w' hm => lTargets_any gL LL o w' hm hv)
  obtain ⟨i0, hinf, hz0, hz1, hz2⟩ := info_parts Try.infoI64
  have hap : ∀ (w0 w1 : World) (v : Value) (g : Nat) (f : Nat → Int), Own w0 w1 2 1 v 0 [] → w1.heap[g]? = some (.cells (arr LL.length f) 2 (0, 0)) →
      ∃ v' w', (Builtin.append_ #[35, 35] 35 #[v, .slice (some ⟨g, 0, none⟩) LL.length LL.length]).run Try.prog w1 = .ok v' w' ∧ Own w0 w' 2 1 v' LL.length (arr LL.length f).toList ∧ Tch v.ownBlock.toList w1 w' := by
    intro w0 w1 v g f k hg
    have := own_apps (ty := 35) Try.underlying35 hinf hz0 hz1 hz2 rfl (by decide) (by decide) ⟨g, 0, none⟩ LL.length LL.length (arr LL.length f).toList k (by omega) (by rw [Array.length_toList]; simp [arr]) (fun j x hx => by
      have e1 : (⟨g, 0, none⟩ : Addr).add j = ⟨g, j, none⟩ := by unfold Addr.add; split <;> simp_all
      rw [e1, cell_of_row w1 g j _ 2 (0, 0) hg]
      simpa using hx) (fun x hx => by
      rw [arr_list] at hx
      obtain ⟨y, -, rfl⟩ := List.mem_map.1 hx
      rfl)
    rw [Nat.zero_add, List.nil_append] at this
    exact this
  have HAP := Lib.hid hap
  obtain ⟨lv, lt, tt, zt, bl, bt, mt, di⟩ := o
  have HT0 := Lib.hid ((Tch.refl [] w).alloc (.cells (opA lv lt tt zt bl bt mt di) 32))
  clear h hsh hv hinf hz0 hz1 hz2 hap
  go_enter Try.func14, Try.ntmps14
  go_upto_region 2 with (first
    | (go_at_call 31; refine (HMD.out _ HT0.out).mono ?_; rintro e w2 ⟨gL, rfl, h1, h2⟩; have H1 := Lib.hid h1; have H2 := Lib.hid h2; clear h1 h2)
    | (go_at_call 32; refine (HLT.out _ _ H1.out).mono ?_; rintro e w3 ⟨b, gA, gB, rfl, q1, q2, q3, q4⟩; have Q1 := Lib.hid q1; have Q2 := Lib.hid q2; have Q3 := Lib.hid q3; have Q4 := Lib.hid q4; clear q1 q2 q3 q4))
  have t1 : Tch [] w3 (w3.alloc (.cells #[] 2)) := (Tch.refl _ _).alloc _
  have HA1 := Lib.hid (HAP.out w3 _ _ gA _ (Own.new (Tch.refl _ w3) 2 1) (t1.obj Q1.out (by simp)))
  clear t1
  go_wp2_with (first
    | (at_builtin; refine wpList_append_run rfl (.tmp 19) (.tmp 20) 35 rfl (.slice (some ⟨w3.heap.size, 0, none⟩) 0 0) (.slice (some ⟨gA, 0, none⟩) LL.length LL.length) (by simp [Act.eval]) (by simp [Act.eval]) _ HA1.out ?_
       rintro vv w5 ⟨n1, n2⟩
       have N1 := Lib.hid n1
       have T5 : Hid (Tch [] w3 w5) := n1.t
       have HA2 := Lib.hid (HAP.out w5 _ _ gB _ (Own.new (Tch.refl _ w5) 2 1) ((n1.t.alloc _).obj Q2.out (by simp)))
       have hvv := n1.slice
       clear n1 n2
       obtain ⟨a1, c1, hvv, -⟩ := hvv
       subst hvv)
    | (at_builtin; refine wpList_append_run rfl (.tmp 22) (.tmp 23) 35 rfl (.slice (some ⟨w5.heap.size, 0, none⟩) 0 0) (.slice (some ⟨gB, 0, none⟩) LL.length LL.length) (by simp [Act.eval]) (by simp [Act.eval]) _ HA2.out ?_
       rintro vv w6 ⟨n1, n2⟩
       have N2 := Lib.hid n1
       have T6 : Hid (Tch [] w5 w6) := n1.t
       have hvv := n1.slice
       clear n1 n2
       obtain ⟨a2, c2, hvv, -⟩ := hvv
       subst hvv))
  go_ret3
  exact ⟨b, a1, a2, c1, c2, rfl, (own_iat N1.out.row).tch T6.out, own_iat N2.out.row, Q3.out, HT0.out.trans (H2.out.trans (Q4.out.trans (T5.out.trans T6.out)))⟩

end Go.Proofs.Ytdofgamahjmohaa
