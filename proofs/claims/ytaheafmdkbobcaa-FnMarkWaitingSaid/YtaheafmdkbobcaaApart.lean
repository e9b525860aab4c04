/- spec.WaitsApart: it says yes or no, and leaves alone what was there. -/
import Derived.Test.YtaheafmdkbobcaaBoth
namespace Go.Proofs.Ytaheafmdkbobcaa
open Go.RowKit
set_option maxRecDepth 100000

theorem zero4 (w : World) : (zeroValue 4).run Try.prog w = .ok (.bool false) w := by kernel_rfl

def allTrue (l : List (Int × Value)) : Prop := ∀ p ∈ l, p.2 = .bool true

theorem allTrue_look {l : List (Int × Value)} (h : allTrue l) (x : Int) : ∃ c : Bool, (at? l x).getD (.bool false) = .bool c := by
  unfold at?
  cases hf : l.find? (fun p => p.1 == x) with
  | none => exact ⟨false, rfl⟩
  | some p => exact ⟨true, h p (List.mem_of_find?_eq_some hf)⟩

theorem allTrue_put {l : List (Int × Value)} (h : allTrue l) (x : Int) : allTrue (putL l x (.bool true)) := by
  unfold putL
  intro p hp
  split at hp
  · obtain ⟨r, hr, rfl⟩ := List.mem_map.1 hp
    split
    · rfl
    · exact h r hr
  · rcases List.mem_append.1 hp with hp | hp
    · exact h p hp
    · rw [List.mem_singleton.1 hp]

def Seen (w wr : World) : Prop := ∃ l, RMap .u64 wr w.heap.size l ∧ allTrue l ∧ Tch [] w wr

theorem Seen.look {w wr : World} (h : Seen w wr) (o : Obj) (x : Int) : ∃ c : Bool, (Instr.lookup 57 (.map (some w.heap.size)) (.int .u64 x) false).run Try.prog (wr.alloc o) = .ok (.bool c) (wr.alloc o) := by
  obtain ⟨l, h1, h2, -⟩ := h
  obtain ⟨c, hc⟩ := allTrue_look h2 x
  refine ⟨c, ?_⟩
  rw [(h1.tch ((Tch.refl [] wr).alloc o) (by simp)).lookup (P := Try.prog) (t := 57) Try.underlying28 Try.underlying57 (zero4 _) x, hc]

theorem Seen.put {w wr : World} (h : Seen w wr) (o : Obj) (x : Int) : ∃ w', (Instr.mapUpdate 57 (.map (some w.heap.size)) (.int .u64 x) (.bool true)).run Try.prog (wr.alloc o) = .ok () w' ∧ Seen w w' := by
  obtain ⟨l, h1, h2, h3⟩ := h
  obtain ⟨w', e, g1, g2⟩ := (h1.tch ((Tch.refl [] wr).alloc o) (by simp)).update (P := Try.prog) (t := 57) Try.underlying28 Try.underlying57 x (.bool true)
  exact ⟨w', e, _, g1, allTrue_put h2 x, (h3.alloc o).then g2 (fun i hi hm => by rw [List.mem_singleton.1 hm] at hi; omega)⟩

theorem Seen.start (w : World) : Seen w (w.alloc (.map #[] 0)) := ⟨[], RMap.made .u64 w, by intro p hp; simp at hp, (Tch.refl _ _).alloc _⟩

theorem Seen.tch {w wr : World} (h : Seen w wr) (o : Obj) : Seen w (wr.alloc o) := by
  obtain ⟨l, h1, h2, h3⟩ := h
  exact ⟨l, h1.tch ((Tch.refl [] wr).alloc o) (by simp), h2, h3.alloc o⟩

set_option maxHeartbeats 1000000 in
theorem apart_any (L : List Stp) (sa : Option Addr) (cz : Nat) (w : World) (hll : L.length ≤ 5000) (hst : StepsAt w sa L) :
    Calls Try.prog 16 #[.slice sa L.length cz] w (Guard w True) := by
  have HST := Lib.hid hst
  have HS0 := Lib.hid (Seen.start w)
  have hmm := @run_makeMap Try.prog
  clear hst
  go_enter Try.func16, Try.ntmps16
  go_wp2_with fail
  go_loopg [9] L.length (fun n s9 wr => ∃ k : Nat, k ≤ L.length ∧ n = L.length - k ∧ s9 = .int .i64 k ∧ Hid (Seen w wr))
  case atStart => exact ⟨0, Nat.zero_le _, rfl, rfl, HS0.out⟩
  case round =>
    obtain ⟨k, hk, rfl, rfl, HR⟩ := hrel
    clear HS0
    by_cases hlt : k < L.length
    · have hlt2 : (k : Int) < L.length := by omega
      obtain ⟨a, rfl, hsa⟩ := HST.out k hlt
      have hsa := hsa.tch HR.out.choose_spec.2.2
      generalize hp : L.getD k default = p at *
      obtain ⟨kd, ix, zs⟩ := p
      obtain ⟨am, cm, m1, m2, m3⟩ := hsa.many
      have k0 : wr.cell? (a.add (k * 3)) = some (.int .i64 kd) := hsa.kind
      have k1 : wr.cell? ⟨(a.add (k * 3)).block, (a.add (k * 3)).off + 1, none⟩ = some (.int .u64 ix) := hsa.idx
      have m1 : wr.cell? ⟨(a.add (k * 3)).block, (a.add (k * 3)).off + 2, none⟩ = some (.slice am zs.length cm) := m1
      have kl := hsa.lt
      clear hp m2 m3 hsa
      by_cases h4 : kd = 4
      · subst h4
        obtain ⟨c, hlk⟩ := HR.out.look (.cells #[.int .i64 4, .int .u64 ix, .slice am zs.length cm] 31) ix
        have HP := Lib.hid (HR.out.put (.cells #[.int .i64 4, .int .u64 ix, .slice am zs.length cm] 31) ix)
        cases c with
        | true =>
          go_wp2_with fail
          go_ret
          exact ⟨false, rfl, by simp, (HR.out.tch _).choose_spec.2.2⟩
        | false =>
          go_wp2_with (at_mapUpdate; refine wpList_mapUpdate_run rfl _ _ _ 57 rfl _ _ _ rfl rfl rfl _ HP.out ?_; rintro w2 hs; have HS2 := Lib.hid hs; clear hs)
          go_roundg (L.length - (k + 1))
          case rel => exact ⟨k + 1, by omega, rfl, by go_num, HS2.out⟩
          case measure => omega
      · have t0 : (kd == 4) = false := by simpa using h4
        clear h4
        go_wp2_with fail
        go_roundg (L.length - (k + 1))
        case rel => exact ⟨k + 1, by omega, rfl, by go_num, HR.out.tch _⟩
        case measure => omega
    · obtain rfl : k = L.length := by omega
      clear hlt hk HST
      go_wp2_with fail
      go_ret
      exact ⟨true, rfl, by simp, HR.out.choose_spec.2.2⟩

end Go.Proofs.Ytaheafmdkbobcaa
