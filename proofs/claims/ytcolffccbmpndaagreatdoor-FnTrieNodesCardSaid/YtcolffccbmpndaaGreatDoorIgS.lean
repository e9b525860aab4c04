/- ParseIgnoreBytes, impl.IgnoreBytes. -/
import Derived.Test.YtcolffccbmpndaaGreatDoorIgR
import Derived.BigQuiet
namespace Go.Proofs.YtcolffccbmpndaaGreatDoor
open Go.RowKit Go.Deep
set_option maxRecDepth 100000

/-- append of many elements. -/
theorem own_apps {t e ty : TypeId} {i0 : TypeInfo} {z : Value} {sz bytes : Nat} (u : Tryz.prog.underlying t = some (.slice e)) (hi : Tryz.prog.info? e = some i0) (hz : i0.zero = some z) (hsz : i0.size = sz) (hby : i0.bytes = bytes) (hzs : z.cells.size = sz) (hpos : 0 < sz) (hb : bytes ≤ 1000)
    {w0 w : World} {v : Value} {n : Nat} {xs : List Value} (ad : Addr) (m c : Nat) (news : List Value) (h : Own w0 w e sz v n xs) (hn : n + m ≤ 100000000) (hl : news.length = m * sz) (hc : ∀ j x, news[j]? = some x → w.cell? (ad.add j) = some x) (h1 : ∀ x ∈ news, x.oneCell' = true) :
    ∃ v' w', (Builtin.append_ #[t, t] ty #[v, .slice (some ad) m c]).run Tryz.prog w = .ok v' w' ∧ Own w0 w' e sz v' (n + m) (xs ++ news) ∧ Tch v.ownBlock.toList w w' := by
  have hb2 : (n + m) * bytes ≤ 140737488355328 := Nat.le_trans (Nat.mul_le_mul hn hb) (by omega)
  obtain ⟨v', w', hrun, ho, hg, -, hloc⟩ := run_append_own_at (P := Tryz.prog) (w := w) w0.heap.size t ty e i0 z sz bytes u hi hz hsz hby hzs hpos v n xs h.row ad m c news hl hc h1 (by unfold maxLen; omega) hb2 h.t.size
  have hT : Tch v.ownBlock.toList w w' := ⟨hg.os, hg.output, hg.size, fun k hk hk2 => hg.block k hk (by simpa [Option.mem_toList, eq_comm] using hk2)⟩
  have hT0 : Tch [] w0 w' := ⟨hT.os.trans h.t.os, hT.output.trans h.t.output, Nat.le_trans h.t.size hg.size, fun k hk _ => by
    rw [hT.block k (Nat.lt_of_lt_of_le hk h.t.size) (fun hm => by have := (h.row.lt k (by simpa [Option.mem_toList] using hm)).1; omega), h.t.block k hk (by simp)]⟩
  exact ⟨v', w', hrun, ⟨hT0, ho⟩, hT⟩

/-- What IgnoreBytes tells. -/
def IgnEnd (w : World) (r : Option (Nat × (Nat → Bool))) (e : Ending) (w' : World) : Prop :=
  ∃ a c n f, e = .returned (.tuple #[.slice a n c, .bool r.isSome]) ∧ Own w w' 4 1 (.slice a n c) n (bl n f) ∧ n ≤ 10000 ∧ (∀ i, n ≤ i → f i = false) ∧ (r.isSome = true → r = some (n, f))

set_option maxHeartbeats 1000000 in
theorem parseB_any (l : List UInt8) (w : World) (hl : l.length ≤ 1000000) (ht : Tabs w) (hsm : ∀ p ∈ splitB 44 (trimS l), smallI p) :
    Calls Tryz.prog 38 #[.string (bs l)] w (IgnEnd w (parseP l)) := by
  have HP := Lib.hid (parse_any l w hl ht hsm)
  generalize parseP l = r at *
  clear hl ht hsm
  go_enter Tryz.func38, Tryz.ntmps38
  go_wp2_with fail
  refine HP.out.mono ?_
  rintro e w1 ⟨a, c, n, f, err, rfl, h1, h2, h3, h4⟩
  have H1 := Lib.hid h1
  have H2 := Lib.hid h2
  have H3 := Lib.hid h3
  clear h1 h2 h3
  rcases h4 with ⟨hr, rfl⟩ | ⟨hr, et, ep, rfl⟩
  · have HR := Lib.hid hr
    clear hr
    go_wp2_with fail
    go_quiet (fail)
    go_wp2_with fail
    go_ret2
    exact ⟨a, c, n, f, by rw [HR.out]; rfl, H1.out.tch ((Tch.refl _ _).drewN _), H2.out, H3.out, fun _ => HR.out⟩
  · have HR := Lib.hid hr
    clear hr
    go_wp2_with fail
    go_quiet (fail)
    go_wp2_with fail
    go_ret2
    exact ⟨a, c, n, f, by rw [HR.out]; rfl, H1.out.tch ((Tch.refl _ _).drewN _), H2.out, H3.out, fun h => by rw [HR.out] at h; simp at h⟩

set_option maxHeartbeats 1000000 in
theorem ignore_any (l : List UInt8) (w : World) (hl : l.length ≤ 1000000) (ht : Tabs w) (hsm : ∀ p ∈ splitB 44 (trimS l), smallI p) :
    Calls Tryz.prog 23 #[.string (bs l)] w (IgnEnd w (parseP l)) := by
  have HP := Lib.hid (parseB_any l w hl ht hsm)
  generalize parseP l = r at *
  obtain ⟨i0, hinf, hz0, hz1, hz2⟩ := info_parts Tryz.infoBool
  have HAP := Lib.hid (fun (w1 : World) (v : Value) (ad : Addr) (n c : Nat) (xs : List Value) (h : Own w1 (w1.alloc (.cells #[] 4)) 4 1 v 0 []) (hn : 0 + n ≤ 100000000) (hx : xs.length = n * 1) (hc : ∀ j x, xs[j]? = some x → (w1.alloc (.cells #[] 4)).cell? (ad.add j) = some x) (h1 : ∀ x ∈ xs, x.oneCell' = true) =>
    own_apps (ty := 36) Tryz.underlying36 hinf hz0 hz1 hz2 rfl (by decide) (by decide) ad n c xs h hn hx hc h1)
  clear hl ht hsm hinf hz0 hz1 hz2
  go_enter Tryz.func23, Tryz.ntmps23
  go_upto_region 2 with (go_at_call 38; refine HP.out.mono ?_; rintro e w1 ⟨a, c, n, f, rfl, h1, h2, h3, h4⟩; have H1 := Lib.hid h1; have H2 := Lib.hid h2; have H3 := Lib.hid h3; have H4 := Lib.hid h4; clear h1 h2 h3 h4)
  cases a with
  | none =>
    obtain ⟨a', c', e', -, hnil, -⟩ := H1.out.slice
    simp only [Value.slice.injEq, true_and] at e'
    obtain ⟨rfl, rfl⟩ := e'
    obtain ⟨rfl, rfl⟩ := hnil rfl
    have HN : Hid (Own w (w1.alloc (.cells #[] 4)) 4 1 (.slice (some ⟨w1.heap.size, 0, none⟩) 0 0) 0 []) := Lib.hid ((Own.new (Tch.refl _ w1) 4 1).lower H1.out.t)
    clear hnil
    go_wp2_with fail
    go_ret2
    exact ⟨_, _, 0, f, rfl, HN.out, H2.out, H3.out, H4.out⟩
  | some ad =>
    have hcx : ∀ j x, (bl n f)[j]? = some x → (w1.alloc (.cells #[] 4)).cell? (ad.add j) = some x := fun j x hx => by
      have h1 := own_cell H1.out.row hx
      exact cell_tch h1.2 ((Tch.refl _ _).alloc _)
    have HA1 := Lib.hid (HAP.out w1 _ ad n c (bl n f) (Own.new (Tch.refl _ w1) 4 1) (by have := H2.out; omega) (by unfold bl; simp) hcx (fun x hx => by unfold bl at hx; obtain ⟨y, -, rfl⟩ := List.mem_map.1 hx; rfl))
    clear hcx
    go_wp2_with (at_builtin; refine wpList_append_run rfl (.tmp 11) (.tmp 12) 36 rfl (.slice (some ⟨w1.heap.size, 0, none⟩) 0 0) (.slice (some ad) n c) (by simp [Act.eval]) (by simp [Act.eval]) _ HA1.out ?_
                 rintro vv w5 ⟨n1, n2⟩
                 have N1 := Lib.hid n1
                 have hvv := n1.slice
                 clear n1 n2
                 obtain ⟨a1, c1, hvv, -⟩ := hvv
                 subst hvv)
    go_ret2
    have h5 := N1.out
    rw [Nat.zero_add, List.nil_append] at h5
    exact ⟨a1, c1, n, f, rfl, h5.lower H1.out.t, H2.out, H3.out, H4.out⟩

end Go.Proofs.YtcolffccbmpndaaGreatDoor
