/- spec's begin: the walk. -/
import Derived.Test.YtaheafmdkbobcaaSpecB
namespace Go.Proofs.Ytaheafmdkbobcaa
open Go.RowKit

/-- An index that has begun begins once more. -/
theorem begin_old {w w1 : World} {tb g c : Nat} {fp : List Nat} {vw : Value} {all : List Cn} {N : Nat} {q : MSt × List Int} {x b d : Int} {i : Nat} (h : SpD w tb (.slice (some ⟨g, 0, none⟩) all.length c) vw all N q) (hfp : ∀ k ∈ tfoot tb (.slice (some ⟨g, 0, none⟩) all.length c) vw, k ∈ fp) (ht : Tch [] w w1) (hp : all[i]? = some (x, b, d)) :
    LeavesT w tb fp (N + 1) (next1 { q.1 with last := x } x false, q.2) ((w1.setCell ⟨g, i * 3 + 1, none⟩ (.int .i64 (b + 1))).setCell ⟨tb, 2, none⟩ (.int .u64 x)) := by
  obtain ⟨td5, T5⟩ := (h.td.tch ht (by simp)).put hp (j := 1) (by omega) (.int .i64 (b + 1)) (q := (x, b + 1, d)) rfl
  obtain ⟨td6, T6⟩ := td5.set2 x
  have hcn := h.cn _ (List.mem_of_getElem? hp)
  simp only at hcn
  refine ⟨tfoot tb (.slice (some ⟨g, 0, none⟩) (all.set i (x, b + 1, d)).length c) vw, ⟨_, vw, all.set i (x, b + 1, d), ⟨td6, ?_, ?_, by rw [set_keys (r := (x, b + 1, d)) hp rfl]; exact h.nd, by rw [List.length_set]; have := h.len; omega, by have := h.wlen; show q.2.length ≤ _; omega⟩, fun k hk => hk⟩, ?_, ?_⟩
  · simp only [next1, Bool.false_eq_true, if_false]
    have e := plOf_set h.nd hp (r := (x, b + 1, d)) rfl
    simp only at e
    rw [e, h.pl, cnt_plOf_some h.nd (List.mem_of_getElem? hp) rfl]
    simp only [Option.getD_some]
    congr 1; omega
  · intro p hp'
    rcases List.mem_or_eq_of_mem_set hp' with hp' | rfl
    · have := h.cn p hp'; omega
    · simp only; omega
  · intro k hk
    refine .inl (hfp k ?_)
    rw [List.length_set] at hk
    exact hk
  · refine (((ht.mono (T := fp) (by simp)).then T5 (fun i _ hm => ?_))).then T6 (fun i _ hm => ?_)
    · rw [List.mem_singleton.1 hm]; exact hfp _ (mem_tfoot.2 (.inr (.inl rfl)))
    · rw [List.mem_singleton.1 hm]; exact hfp _ (mem_tfoot.2 (.inl rfl))

def Began (w : World) (tb : Nat) (fp : List Nat) (N : Nat) (q : MSt × List Int) (x : Int) (e : Ending) (w' : World) : Prop :=
  ∃ r : Bool, e = .returned (.bool r) ∧ (r = true → (q.1.til < x ∧ x < MAX) ∧ LeavesT w tb fp (N + 1) (next1 { q.1 with last := x } x false, q.2) w') ∧ (r = false → Tch [] w w')

set_option maxHeartbeats 800000 in
theorem sbegin_any (x : Int) (tb : Nat) (fp : List Nat) (N : Nat) (q : MSt × List Int) (w : World) (hN : N ≤ 90000) (hx : x ≤ MAX) (h : SpAt w tb fp N q) :
    Calls Try.prog 31 #[ptr tb, .int .u64 x] w (Began w tb fp N q x) := by
  obtain ⟨va, vw, all, hd, hfp⟩ := h
  obtain ⟨c0, c1, c2, c3, fz⟩ := hd.td.facts
  have HT := Lib.hid (Tch.refl [] w)
  by_cases h1 : x ≤ q.1.til
  · have t0 : decide (x ≤ q.1.til) = true := by simpa using h1
    clear hd hfp fz h1
    go_enter Try.func31, Try.ntmps31
    go_wp2
    go_ret
    exact ⟨false, rfl, by simp, fun _ => HT.out⟩
  have t0 : decide (x ≤ q.1.til) = false := by simpa using h1
  by_cases h2 : x = 18446744073709551615
  · have t1 : (x == 18446744073709551615) = true := by simpa using h2
    clear hd hfp fz h1 h2
    go_enter Try.func31, Try.ntmps31
    go_wp2
    go_ret
    exact ⟨false, rfl, by simp, fun _ => HT.out⟩
  have t1 : (x == 18446744073709551615) = false := by simpa using h2
  have HX := Lib.hid (show q.1.til < x ∧ x < MAX from ⟨by omega, by unfold MAX at hx ⊢; omega⟩)
  have hl := hd.len
  have hl2 : all.length ≤ 90000 := by omega
  have HF := Lib.hid (find_any x tb va vw all q.1.til q.1.last q.2 w (by omega) hd.td)
  rcases findFrom_cases x all 0 with ⟨e1, e2⟩ | ⟨i, p, e1, e2, e3⟩
  · rw [e1] at HF
    obtain ⟨a, c, rfl⟩ := ownsRow_slice hd.td.arow
    have HD := Lib.hid hd
    have HFP := Lib.hid hfp
    have HE := Lib.hid e2
    clear hd hfp fz h1 h2 e1 e2 hl c0 c2 c3
    go_enter Try.func31, Try.ntmps31
    go_wp2_with (first | (go_at_call 34; refine HF.out.mono ?_; rintro e w1 ⟨rfl, ht1⟩; have q0 := (HD.out.td.tch ht1 (by simp)).facts.1; have HT1 := Lib.hid ht1; have HA := Lib.hid (cn_app w1 (.slice a all.length c) all.length w1.heap.size x _ 42 rfl (HD.out.td.tch ht1 (by simp)).arow (by omega)); clear ht1) | (at_builtin; refine wpList_append_run rfl (.tmp 30) (.tmp 33) 42 rfl (.slice a all.length c) (.slice (some ⟨w1.heap.size, 0, none⟩) 1 1) (by simp [Act.eval]) (by simp [Act.eval]) _ HA.out ?_; rintro vv w3 ⟨g', c', rfl, n1, n2, n3⟩; obtain ⟨m1, m2, m3, ⟨u, m4⟩, m5, m6, m7, m8⟩ := begin_new HD.out HFP.out HT1.out HE.out n1 n2 n3; have HL := Lib.hid m8; have hgl := own_lt n1 (k := g') rfl; clear m8 n1 n2 n3))
    go_ret
    exact ⟨true, rfl, fun _ => ⟨HX.out, HL.out⟩, by simp⟩
  · obtain ⟨x', b, d⟩ := p
    have e3 : x' = x := e3
    subst e3
    rw [e1, Nat.zero_add] at HF
    have hi : i < all.length := (List.getElem?_eq_some_iff.1 e2).1
    obtain ⟨g, c, e, -, -⟩ := ownsRow_value hd.td.arow (by omega)
    subst e
    have hcn := hd.cn _ (List.mem_of_getElem? e2)
    simp only at hcn
    have hi1 : (i : Int) < all.length := by omega
    have hi0 : ¬ (i : Int) < 0 := by omega
    have t2 : decide ((i : Int) < 0) = false := by simp
    have hb1 : 0 ≤ b := by omega
    have hb2 : b ≤ 90000 := by omega
    have hne := hd.td.ne_a (g := g) rfl
    have HD := Lib.hid hd
    have HFP := Lib.hid hfp
    have HE := Lib.hid e2
    clear hd hfp fz h1 h2 e1 e2 hl c0 c2 c3 hcn hi0
    go_enter Try.func31, Try.ntmps31
    go_wp2_with (go_at_call 34; refine HF.out.mono ?_; rintro e w1 ⟨rfl, ht1⟩; have htd1 := HD.out.td.tch ht1 (by simp); obtain ⟨q0, q1, q2, q3, qf⟩ := htd1.facts; obtain ⟨r0, r1, r2, rf⟩ := htd1.cell HE.out; have qf2 := qf 2; have rf1 := rf (i * 3 + 1); have HL := Lib.hid (begin_old HD.out HFP.out ht1 HE.out); have hgl := own_lt htd1.arow (k := g) rfl; clear ht1 htd1 qf rf q3 r0 r2)
    go_ret
    exact ⟨true, rfl, fun _ => ⟨HX.out, HL.out⟩, by simp⟩

end Go.Proofs.Ytaheafmdkbobcaa
