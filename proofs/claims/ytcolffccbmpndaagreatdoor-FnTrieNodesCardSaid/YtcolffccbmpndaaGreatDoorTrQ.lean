/- What the laws of tries lay and read: steps, what is told, texts of bytes. -/
import Derived.Test.YtcolffccbmpndaaGreatDoorTrY
import Derived.Laws.IdiomStrings
import Derived.Laws.BytesArg
namespace Go.Proofs.YtcolffccbmpndaaGreatDoor
open Go.RowKit Go.Deep
set_option maxRecDepth 100000

/-- A step with the slice of its bytes. -/
structure StepV where
  s : StepD
  a : Option Addr
  c : Nat
def stC (x : StepV) : List Value := [.int .i64 x.s.kind, .slice x.a x.s.bytes.length x.c, .string (bs x.s.holes), .int .u64 x.s.id]
theorem steps_of {w : World} {g : Nat} {L : List StepV} (hg : g < w.heap.size) (hc : ∀ i x, L[i]? = some x → ∀ j, j < 4 → w.cell? ⟨g, i * 4 + j, none⟩ = (stC x)[j]?) (hb : ∀ x ∈ L, By w x.s.bytes x.a x.c) : StepsAt w (some ⟨g, 0, none⟩) (L.map (·.s)) := by
  intro i hi
  rw [List.length_map] at hi
  have hx : L[i]? = some L[i] := List.getElem?_eq_getElem hi
  have hp : (L.map (·.s)).getD i default = L[i].s := by simp [List.getD, hi]
  have h := hc i _ hx
  rw [hp]
  have ha : (⟨g, 0, none⟩ : Addr).add (i * 4) = ⟨g, i * 4, none⟩ := addr_add0 _ _
  have hj : ∀ j, 0 < j → (⟨g, i * 4, none⟩ : Addr).add j = ⟨g, i * 4 + j, none⟩ := fun j hj => by unfold Addr.add; rw [if_neg (by omega)]
  refine ⟨⟨g, 0, none⟩, rfl, ?_⟩
  rw [ha]
  refine ⟨hg, h 0 (by omega), ⟨_, _, by rw [hj 1 (by omega)]; exact h 1 (by omega), hb _ (List.getElem_mem hi)⟩, by rw [hj 2 (by omega)]; exact h 2 (by omega), by rw [hj 3 (by omega)]; exact h 3 (by omega)⟩
/-- Steps laid as a literal. -/
theorem steps_lit {w : World} {g : Nat} {L : List StepV} {cs : Array Value} (h : w.heap[g]? = some (.cells cs 28 (0, 0))) (hcs : cs = (L.flatMap stC).toArray) (hb : ∀ x ∈ L, By w x.s.bytes x.a x.c) : StepsAt w (some ⟨g, 0, none⟩) (L.map (·.s)) := by
  refine steps_of (lt_of_obj h) (fun i x hx j hj => ?_) hb
  rw [cell_of_row w g _ _ _ _ h, hcs]
  simp only [List.getElem?_toArray]
  exact flat_at stC 4 (fun _ => rfl) L i j x hx hj

/-- What is told, read. -/
theorem told_of {w w' : World} {L : List StepD} {e : Ending} (h : RunEnd w L e w') (h0 : 0 < L.length) : ∃ (g oc : Nat) (outs : List (TTold × Value)), e = .returned (.slice (some ⟨g, 0, none⟩) L.length oc) ∧ outs.map Prod.fst = runT [] L ∧ Tch [] w w' ∧ ∀ i p, outs[i]? = some p → (∀ j, j < 4 → w'.cell? ⟨g, i * 4 + j, none⟩ = (tolC p)[j]?) ∧ ∃ a c, p.2 = .slice a p.1.ids.length c ∧ UAt w' a p.1.ids := by
  obtain ⟨oa, oc, N, outs, rfl, hO, hT⟩ := h
  have hlen : outs.length = L.length := by have := congrArg List.length hT; rw [List.length_map, runT_len] at this; exact this
  have hrow := hO.row.row
  rw [hlen] at hrow
  obtain ⟨g, cap, e1, -⟩ := ownsRow_value hrow h0
  simp only [Value.slice.injEq, true_and] at e1
  obtain ⟨rfl, rfl⟩ := e1
  refine ⟨g, _, outs, rfl, hT, hO.row.t, fun i p hp => ⟨fun j hj => ?_, ?_⟩⟩
  · have hi : i < outs.length := (List.getElem?_eq_some_iff.1 hp).1
    rw [hrow.cellAt (i * 4 + j) (by omega)]
    exact flat_at tolC 4 (fun _ => rfl) outs i j p hp hj
  · have hi := (hO.ids p (List.mem_of_getElem? hp)).1
    obtain ⟨a, c, e⟩ := ownsRow_slice hi
    rw [e] at hi
    exact ⟨a, c, e, (UAt.of_row hi).1⟩

/-- Bytes as a text. -/
def toB (l : List Int) : List UInt8 := l.map (fun x => UInt8.ofNat x.toNat)
theorem toB_get {l : List Int} (hu : ∀ x ∈ l, 0 ≤ x ∧ x < 256) {j : Nat} (hj : j < (toB l).length) : ((toB l)[j].toNat : Int) = l.getD j 0 := by
  have hl : j < l.length := by simpa [toB] using hj
  have := hu l[j] (List.getElem_mem hl)
  have e4 : (toB l)[j] = UInt8.ofNat l[j].toNat := by simp [toB]
  have e5 : l.getD j 0 = l[j] := by simp [List.getD, List.getElem?_eq_getElem hl]
  rw [e4, e5]
  have e : (UInt8.ofNat l[j].toNat).toNat = l[j].toNat := by
    rw [UInt8.toNat_ofNat']
    omega
  rw [e]; omega
theorem toB_inj {l m : List Int} (hl : ∀ x ∈ l, 0 ≤ x ∧ x < 256) (hm : ∀ x ∈ m, 0 ≤ x ∧ x < 256) (h : toB l = toB m) : l = m := by
  have hlen : l.length = m.length := by have := congrArg List.length h; simpa [toB] using this
  apply List.ext_getElem hlen
  intro j h1 h2
  have e1 := toB_get hl (j := j) (by simpa [toB] using h1)
  have e2 := toB_get hm (j := j) (by simpa [toB] using h2)
  have e3 : (toB l)[j]'(by simpa [toB] using h1) = (toB m)[j]'(by simpa [toB] using h2) := by simp only [h]
  rw [e3, e2] at e1
  simpa [List.getD, List.getElem?_eq_getElem h1, List.getElem?_eq_getElem h2] using e1.symm
theorem conv_by {w : World} {l : List Int} {a : Option Addr} {c : Nat} (h : By w l a c) {m : Nat} (hm : m ≤ l.length) : (convert 23 9 (.slice a m c)).run Tryz.prog w = .ok (.string (bs (toB (l.take m)))) w := by
  cases a with
  | none =>
    obtain ⟨rfl, rfl⟩ := h.nil rfl
    obtain rfl : m = 0 := by simpa using hm
    rw [run_convert_bytes_string w 23 9 5 none 0 0 Tryz.underlying23 Tryz.underlying5 Tryz.underlying9]
    rfl
  | some ad =>
    have hl : (toB (l.take m)).length = m := by simp [toB]; omega
    have := run_convert_bytes_back (P := Tryz.prog) w 23 9 5 ad c (toB (l.take m)) Tryz.underlying23 Tryz.underlying5 Tryz.underlying9 (fun j hj => by
      have hj2 : j < m := by omega
      rw [toB_get (fun x hx => h.u8 x (List.mem_of_mem_take hx)) hj, (h.cell ad rfl j (by omega)).2]
      simp [List.getD, hj2])
    rw [hl] at this
    exact this

/-- small. -/
def HolesOk (tx : List UInt8) (n : Nat) (f : Nat → Bool) : Prop := parseP tx = some (n, f) ∧ tx.length ≤ 1000000 ∧ ∀ p ∈ splitB 44 (trimS tx), smallI p
theorem holesOk_of {l : List UInt8} {n : Nat} {f : Nat → Bool} (h : (l = [] ∧ n = 0) ∨ (l.length ≤ 1000 ∧ ∃ L it, (∀ j ∈ L, It.good j) ∧ It.good it ∧ l = pre L ++ it.text ∧ (n, f) = (L ++ [it]).foldl stepI (0, fun _ => false))) : ∃ f', HolesOk l n f' ∧ ∀ i, i < n → f' i = f i := by
  rcases h with ⟨rfl, rfl⟩ | ⟨h5, L, it, g1, g2, g3, g4⟩
  · exact ⟨_, ⟨rfl, by simp, small_none⟩, fun i hi => absurd hi (Nat.not_lt_zero i)⟩
  · have := parse_pre L it g1 g2
    rw [← g3, ← g4] at this
    exact ⟨f, ⟨this.1, by omega, this.2⟩, fun _ _ => rfl⟩

theorem small_any (w : World) (l key : List Int) (ba ka : Option Addr) (bc kc : Nat) (tx : List UInt8) (ht : tx.length ≤ 2147483647) (hl : l.length ≤ 2147483647) (hk : key.length ≤ 2147483647) :
    Calls Tryz.prog 17 #[.slice ba l.length bc, .string (bs tx), .slice ka key.length kc] w fun e w' => ∃ b, e = .returned (.bool b) ∧ Tch [] w w' ∧ (b = true → l.length ≤ 10000 ∧ key.length ≤ 10000 ∧ ∃ n f, HolesOk tx n f) := by
  have hs := bs_size tx
  have h0 : (tx.length : Int) ≤ 2147483647 := by omega
  by_cases hbig : l.length ≤ 10000 ∧ tx.length ≤ 10000 ∧ key.length ≤ 10000
  · obtain ⟨h1, h2, h3⟩ := hbig
    have HS := Lib.hid (⟨h1, h2, h3⟩ : _ ∧ _ ∧ _)
    have HH := Lib.hid (holes_any tx w (by omega))
    have g1 : (l.length : Int) ≤ 10000 := by omega
    have g2 : (tx.length : Int) ≤ 10000 := by omega
    have g3 : (key.length : Int) ≤ 10000 := by omega
    have d1 : decide ((10000 : Int) < (l.length : Int)) = false := decide_eq_false (by omega)
    have d2 : decide ((10000 : Int) < (tx.length : Int)) = false := decide_eq_false (by omega)
    have d3 : decide ((10000 : Int) < (key.length : Int)) = false := decide_eq_false (by omega)
    clear h1 h2 h3 ht hl hk h0
    go_enter Tryz.func17, Tryz.ntmps17
    go_wp2_with fail
    clear d1 d2 d3
    refine HH.out.mono ?_
    rintro e w1 ⟨a, c, n, f, fine, rfl, h1, h2, h3, h4⟩
    have HT := Lib.hid h1.t
    have H4 := Lib.hid (fun h => holesOk_of (h4 h))
    clear h1 h2 h3 h4
    go_wp2_with fail
    go_ret
    exact ⟨fine, rfl, HT.out, fun h => ⟨HS.out.1, HS.out.2.2, by obtain ⟨f', h1, -⟩ := H4.out h; exact ⟨n, f', h1⟩⟩⟩
  · by_cases h1 : l.length ≤ 10000
    · by_cases h2 : tx.length ≤ 10000
      · have g3 : (10000 : Int) < (key.length : Int) := by omega
        have g1 : (l.length : Int) ≤ 10000 := by omega
        have g2 : (tx.length : Int) ≤ 10000 := by omega
        clear hbig h1 h2 ht hl hk h0
        go_enter Tryz.func17, Tryz.ntmps17
        go_wp2_with fail
        go_ret
        exact ⟨false, rfl, Tch.refl _ _, fun h => by simp at h⟩
      · have g2 : (10000 : Int) < (tx.length : Int) := by omega
        have g1 : (l.length : Int) ≤ 10000 := by omega
        clear hbig h1 h2 ht hl hk h0
        go_enter Tryz.func17, Tryz.ntmps17
        go_wp2_with fail
        go_ret
        exact ⟨false, rfl, Tch.refl _ _, fun h => by simp at h⟩
    · have g1 : (10000 : Int) < (l.length : Int) := by omega
      clear hbig h1 ht hl hk h0
      go_enter Tryz.func17, Tryz.ntmps17
      go_wp2_with fail
      go_ret
      exact ⟨false, rfl, Tch.refl _ _, fun h => by simp at h⟩

end Go.Proofs.YtcolffccbmpndaaGreatDoor
