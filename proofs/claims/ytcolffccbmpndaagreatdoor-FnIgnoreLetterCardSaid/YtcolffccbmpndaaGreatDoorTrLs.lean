/- spec.ShortNumbers; FnIgnoreLetter, walked. -/
import Derived.Test.YtcolffccbmpndaaGreatDoorTrLt
import Derived.Lib.SmallJoins
namespace Go.Proofs.YtcolffccbmpndaaGreatDoor
open Go.RowKit Go.Deep
set_option maxRecDepth 100000

theorem isD_iff (l : List UInt8) (i : Nat) : isD (l.getD i 0) ↔ 48 ≤ byI l i ∧ byI l i ≤ 57 := by
  unfold isD byI
  constructor
  · intro h; have h1 := h.1; have h2 := h.2; omega
  · intro h; have h1 := h.1; have h2 := h.2; exact ⟨by omega, by omega⟩
theorem take_getB {l : List UInt8} {i : Nat} (h : i < l.length) : l.take (i + 1) = l.take i ++ [l.getD i 0] := by
  rw [List.take_succ_eq_append_getElem h]
  simp [List.getD, List.getElem?_eq_getElem h]

set_option maxHeartbeats 4000000 in
theorem short_any (l : List UInt8) (w : World) (hl : l.length ≤ 2147483647) :
    Calls Tryz.prog 22 #[.string (bs l)] w fun e w' => ∃ b, e = .returned (.bool b) ∧ Tch [] w w' ∧ (b = true → l.length ≤ 400 ∧ Runs l) := by
  have hs := bs_size l
  have hb := byI_get l
  have hl2 : (l.length : Int) ≤ 2147483647 := by omega
  go_enter Tryz.func22, Tryz.ntmps22
  go_wp2_with fail
  go_loopg [3, 4] 500 (fun nn s3 s4 wr => ∃ i d : Nat, i ≤ l.length ∧ i ≤ 401 ∧ d ≤ 4 ∧ nn = 500 - i ∧ s3 = .int .i64 d ∧ s4 = .int .i64 i ∧ Hid (Scan (l.take i) d ∧ Tch [] w wr))
  case atStart => exact ⟨0, 0, Nat.zero_le _, by omega, by omega, rfl, rfl, rfl, scan_nil, Tch.refl _ _⟩
  case round =>
    obtain ⟨i, d, hi1, hi2, hd, rfl, rfl, rfl, HR⟩ := hrel
    rename World => wr
    have HI := Lib.hid (⟨hi1, hi2, hd⟩ : _ ∧ _ ∧ _)
    have hix : (i : Int) ≤ 401 := by omega
    have hdx : (d : Int) ≤ 4 := by omega
    clear hi1 hi2 hd
    by_cases hlt : i < l.length
    · have hlt2 : (i : Int) < (l.length : Int) := by omega
      by_cases h4 : i ≤ 400
      · have h42 : (i : Int) ≤ 400 := by omega
        have HTK := Lib.hid (take_getB hlt)
        have HDI := Lib.hid (isD_iff l i)
        have hn0 := byI_nonneg l i
        have hn1 := byI_le l i
        have HH4 := Lib.hid h4
        have HLT := Lib.hid hlt
        clear h4
        by_cases hlo : byI l i < 48
        · have HNX := Lib.hid (scan_other HR.out.1 (x := l.getD i 0) (fun h => by have := (HDI.out.1 h).1; omega))
          go_wp2_with fail
          go_roundg (500 - (i + 1))
          case rel => exact ⟨i + 1, 0, HLT.out, by have := HH4.out; omega, by omega, rfl, rfl, by go_num, by rw [HTK.out]; exact HNX.out, HR.out.2⟩
          case measure => have := HH4.out; omega
        · by_cases hhi : 57 < byI l i
          · have HNX := Lib.hid (scan_other HR.out.1 (x := l.getD i 0) (fun h => by have := (HDI.out.1 h).2; omega))
            have hlo2 : 48 ≤ byI l i := by omega
            clear hlo
            go_wp2_with fail
            go_roundg (500 - (i + 1))
            case rel => exact ⟨i + 1, 0, HLT.out, by have := HH4.out; omega, by omega, rfl, rfl, by go_num, by rw [HTK.out]; exact HNX.out, HR.out.2⟩
            case measure => have := HH4.out; omega
          · have hlo2 : 48 ≤ byI l i := by omega
            have hhi2 : byI l i ≤ 57 := by omega
            clear hlo hhi
            by_cases h5 : d + 1 ≤ 4
            · have h52 : (d : Int) + 1 ≤ 4 := by omega
              have HNX := Lib.hid (scan_digit (x := l.getD i 0) HR.out.1 h5)
              have H5 := Lib.hid h5
              clear h5
              go_wp2_with fail
              go_roundg (500 - (i + 1))
              case rel => exact ⟨i + 1, d + 1, HLT.out, by have := HH4.out; omega, H5.out, rfl, by go_num, by go_num, by rw [HTK.out]; exact HNX.out, HR.out.2⟩
              case measure => have := HH4.out; omega
            · have h52 : 4 < (d : Int) + 1 := by omega
              clear h5
              go_wp2_with fail
              go_ret
              exact ⟨false, rfl, HR.out.2, fun h => by simp at h⟩
      · have h42 : (400 : Int) < (i : Int) := by omega
        have hl4 : (400 : Int) < (l.length : Int) := by omega
        have HL5 := Lib.hid hl4
        clear h4
        go_wp2_with fail
        go_ret
        exact ⟨_, rfl, HR.out.2, fun h => by have := HL5.out; simp at h; omega⟩
    · obtain rfl : i = l.length := by have := HI.out.1; omega
      have hl4 : (l.length : Int) ≤ 400 ∨ (l.length : Int) = 401 := by omega
      have hr := HR.out.1
      rw [List.take_length] at hr
      have HRR := Lib.hid hr.runs
      clear hlt hr
      rcases hl4 with hl4 | hl4
      · have HL4 : Hid (l.length ≤ 400) := Lib.hid (by omega)
        go_wp2_with fail
        go_ret
        exact ⟨true, rfl, HR.out.2, fun _ => ⟨HL4.out, HRR.out⟩⟩
      · have hl5 : (400 : Int) < (l.length : Int) := by omega
        have HL5 := Lib.hid hl5
        clear hl4
        go_wp2_with fail
        go_ret
        exact ⟨_, rfl, HR.out.2, fun h => by have := HL5.out; simp at h; omega⟩

theorem bs_app (a b : List UInt8) : bs a ++ bs b = bs (a ++ b) := by
  apply ByteArray.ext
  apply Array.ext'
  simp [bs]
theorem enc_L {c : Int} (h1 : 97 ≤ c) (h2 : c ≤ 122) : ∃ x : UInt8, Utf8.encode c = bs [x] ∧ isL x := by
  have hr : c = 97 ∨ c = 98 ∨ c = 99 ∨ c = 100 ∨ c = 101 ∨ c = 102 ∨ c = 103 ∨ c = 104 ∨ c = 105 ∨ c = 106 ∨ c = 107 ∨ c = 108 ∨ c = 109 ∨ c = 110 ∨ c = 111 ∨ c = 112 ∨ c = 113 ∨ c = 114 ∨ c = 115 ∨ c = 116 ∨ c = 117 ∨ c = 118 ∨ c = 119 ∨ c = 120 ∨ c = 121 ∨ c = 122 := by omega
  refine ⟨UInt8.ofNat c.toNat, ?_, ?_⟩
  · rcases hr with rfl | rfl | rfl | rfl | rfl | rfl | rfl | rfl | rfl | rfl | rfl | rfl | rfl | rfl | rfl | rfl | rfl | rfl | rfl | rfl | rfl | rfl | rfl | rfl | rfl | rfl <;> rfl
  · unfold isL
    rcases hr with rfl | rfl | rfl | rfl | rfl | rfl | rfl | rfl | rfl | rfl | rfl | rfl | rfl | rfl | rfl | rfl | rfl | rfl | rfl | rfl | rfl | rfl | rfl | rfl | rfl | rfl <;> decide

/-- A row of bytes laid by a text that stands in the program. -/
theorem by_lit {w : World} {g : Nat} {l : List Int} {cs : Array Value} {e : TypeId} {fr : Nat × Nat} (h : w.heap[g]? = some (.cells cs e fr)) (hcs : cs = (l.map (Value.int .u8)).toArray) (hu : ∀ x ∈ l, 0 ≤ x ∧ x < 256) : By w l (some ⟨g, 0, none⟩) l.length := by
  refine ⟨Nat.le_refl _, by simp, fun ad hd j hj => ?_, hu⟩
  obtain rfl := Option.some.inj hd
  refine ⟨lt_of_obj h, ?_⟩
  rw [addr_add0]
  simp only [World.cell?, h, hcs]
  simp [List.getD, List.getElem?_eq_getElem hj]
theorem letter_run {T : List UInt8} (h : parseP T = none) : runT [] [⟨1, [97, 98], T, 3⟩, ⟨4, [97, 98], [], 0⟩, ⟨0, [97], [], 4⟩, ⟨4, [97, 98], [], 0⟩] = [⟨false, [], 0, 0⟩, ⟨true, [], 0, 0⟩, ⟨true, [], 0, 0⟩, ⟨true, [4], 1, 0⟩] := by
  simp [runT, stepT, holesD, h, idsFor, putO, fitsP, pathOf, hopAt, List.filter]

theorem obj_at (w : World) (o : Obj) {k : Nat} (hk : k = w.heap.size) : (w.alloc o).heap[k]? = some o := by
  subst hk
  exact heap_alloc_new w o
/-- The world of the four steps. -/
abbrev letW (w3 : World) (T : List UInt8) : World := (((((w3.alloc (.cells #[.int .u8 97, .int .u8 98] 5 (2, 3))).alloc (.cells #[.int .u8 97, .int .u8 98] 5 (2, 3))).alloc (.cells #[.int .u8 97] 5 (1, 2))).alloc (.cells #[.int .u8 97, .int .u8 98] 5 (2, 3))).alloc (.cells #[.int .i64 1, .slice (some ⟨w3.heap.size, 0, none⟩) 2 2, .string (bs T), .int .u64 3, .int .i64 4, .slice (some ⟨w3.heap.size + 1, 0, none⟩) 2 2, .string ⟨#[]⟩, .int .u64 0, .int .i64 0, .slice (some ⟨w3.heap.size + 2, 0, none⟩) 1 1, .string ⟨#[]⟩, .int .u64 4, .int .i64 4, .slice (some ⟨w3.heap.size + 3, 0, none⟩) 2 2, .string ⟨#[]⟩, .int .u64 0] 28))
theorem letter_call (w3 : World) {T : List UInt8} (hp : parseP T = none) (hT : T.length ≤ 1000000) (hsm : ∀ p ∈ splitB 44 (trimS T), smallI p) (ht : Tabs w3) :
    Calls Tryz.prog 16 #[.slice (some ⟨w3.heap.size + 1 + 1 + 1 + 1, 0, none⟩) 4 4] (letW w3 T) fun e w' => ∃ g oc a q b r, e = .returned (.slice (some ⟨g, 0, none⟩) 4 oc) ∧ Tch [] w3 w' ∧ w'.cell? ⟨g, 0, none⟩ = some (.bool false) ∧ w'.cell? ⟨g, 5, none⟩ = some (.slice a 0 q) ∧ w'.cell? ⟨g, 13, none⟩ = some (.slice b 1 r) ∧ UAt w' b [4] := by
  have t : Tch [] w3 (letW w3 T) := (((((Tch.refl [] w3).alloc _).alloc _).alloc _).alloc _).alloc _
  have o0 : (letW w3 T).heap[w3.heap.size]? = some (.cells #[.int .u8 97, .int .u8 98] 5 (2, 3)) := ((((Tch.refl [] _).alloc _).alloc _).alloc _ |>.alloc _).obj (obj_at w3 (.cells #[.int .u8 97, .int .u8 98] 5 (2, 3)) rfl) (by simp)
  have o1 : (letW w3 T).heap[w3.heap.size + 1]? = some (.cells #[.int .u8 97, .int .u8 98] 5 (2, 3)) := (((Tch.refl [] _).alloc _).alloc _ |>.alloc _).obj (obj_at (w3.alloc (.cells #[.int .u8 97, .int .u8 98] 5 (2, 3))) (.cells #[.int .u8 97, .int .u8 98] 5 (2, 3)) (by simp)) (by simp)
  have o2 : (letW w3 T).heap[w3.heap.size + 2]? = some (.cells #[.int .u8 97] 5 (1, 2)) := ((Tch.refl [] _).alloc _ |>.alloc _).obj (obj_at ((w3.alloc (.cells #[.int .u8 97, .int .u8 98] 5 (2, 3))).alloc (.cells #[.int .u8 97, .int .u8 98] 5 (2, 3))) (.cells #[.int .u8 97] 5 (1, 2)) (by simp)) (by simp)
  have o3 : (letW w3 T).heap[w3.heap.size + 3]? = some (.cells #[.int .u8 97, .int .u8 98] 5 (2, 3)) := ((Tch.refl [] _).alloc _).obj (obj_at (((w3.alloc (.cells #[.int .u8 97, .int .u8 98] 5 (2, 3))).alloc (.cells #[.int .u8 97, .int .u8 98] 5 (2, 3))).alloc (.cells #[.int .u8 97] 5 (1, 2))) (.cells #[.int .u8 97, .int .u8 98] 5 (2, 3)) (by simp)) (by simp)
  have o4 := obj_at ((((w3.alloc (.cells #[.int .u8 97, .int .u8 98] 5 (2, 3))).alloc (.cells #[.int .u8 97, .int .u8 98] 5 (2, 3))).alloc (.cells #[.int .u8 97] 5 (1, 2))).alloc (.cells #[.int .u8 97, .int .u8 98] 5 (2, 3))) (.cells #[.int .i64 1, .slice (some ⟨w3.heap.size, 0, none⟩) 2 2, .string (bs T), .int .u64 3, .int .i64 4, .slice (some ⟨w3.heap.size + 1, 0, none⟩) 2 2, .string ⟨#[]⟩, .int .u64 0, .int .i64 0, .slice (some ⟨w3.heap.size + 2, 0, none⟩) 1 1, .string ⟨#[]⟩, .int .u64 4, .int .i64 4, .slice (some ⟨w3.heap.size + 3, 0, none⟩) 2 2, .string ⟨#[]⟩, .int .u64 0] 28) (k := w3.heap.size + 1 + 1 + 1 + 1) (by simp)
  have b0 : By (letW w3 T) [97, 98] (some ⟨w3.heap.size, 0, none⟩) 2 := by_lit o0 rfl (by decide)
  have b1 : By (letW w3 T) [97, 98] (some ⟨w3.heap.size + 1, 0, none⟩) 2 := by_lit o1 rfl (by decide)
  have b2 : By (letW w3 T) [97] (some ⟨w3.heap.size + 2, 0, none⟩) 1 := by_lit o2 rfl (by decide)
  have b3 : By (letW w3 T) [97, 98] (some ⟨w3.heap.size + 3, 0, none⟩) 2 := by_lit o3 rfl (by decide)
  have hst := steps_lit (L := [⟨⟨1, [97, 98], T, 3⟩, some ⟨w3.heap.size, 0, none⟩, 2⟩, ⟨⟨4, [97, 98], [], 0⟩, some ⟨w3.heap.size + 1, 0, none⟩, 2⟩, ⟨⟨0, [97], [], 4⟩, some ⟨w3.heap.size + 2, 0, none⟩, 1⟩, ⟨⟨4, [97, 98], [], 0⟩, some ⟨w3.heap.size + 3, 0, none⟩, 2⟩]) o4 rfl (fun x hx => by
    simp only [List.mem_cons, List.not_mem_nil, or_false] at hx
    rcases hx with rfl | rfl | rfl | rfl
    · exact b0
    · exact b1
    · exact b2
    · exact b3)
  refine (runTrie_any [⟨1, [97, 98], T, 3⟩, ⟨4, [97, 98], [], 0⟩, ⟨0, [97], [], 4⟩, ⟨4, [97, 98], [], 0⟩] _ 4 (letW w3 T) (by simp) hst (getD_all (fun s hs => by
    simp only [List.mem_cons, List.not_mem_nil, or_false] at hs
    rcases hs with rfl | rfl | rfl | rfl
    · exact ⟨by simp, hT, fun _ => hsm⟩
    · exact okS_get [97, 98] 0 (by simp) 4 (by decide)
    · exact okS_get [97] 4 (by simp) 0 (by decide)
    · exact okS_get [97, 98] 0 (by simp) 4 (by decide))) (ht.tch t)).mono ?_
  intro e w2 hE
  obtain ⟨g, oc, outs, rfl, ho, t2, hc⟩ := told_of hE (by simp)
  rw [letter_run hp] at ho
  rcases outs with _ | ⟨p0, _ | ⟨p1, _ | ⟨p2, _ | ⟨p3, _ | ⟨p4, r⟩⟩⟩⟩⟩ <;> simp at ho
  obtain ⟨o0, o1, o2, o3⟩ := ho
  obtain ⟨c0, -⟩ := hc 0 p0 rfl
  obtain ⟨c1, a1, q1, e1, -⟩ := hc 1 p1 rfl
  obtain ⟨c3, a3, q3, e3, u3⟩ := hc 3 p3 rfl
  have x0 := c0 0 (by omega)
  have x5 := c1 1 (by omega)
  have x13 := c3 1 (by omega)
  simp only [tolC, o0, o1, o3, e1, e3, List.getElem?_cons_succ, List.getElem?_cons_zero, List.length_nil, List.length_singleton] at x0 x5 x13
  rw [o3] at u3
  exact ⟨g, oc, a1, q1, a3, q3, rfl, t.trans t2, x0, x5, x13, u3⟩

set_option maxHeartbeats 8000000 in
theorem letter_any (A B : List UInt8) (c : Int) (hc0 : 0 ≤ c) (hc1 : c < 256) (w : World) (ht : Tabs w) :
    Calls Tryz.prog 11 #[.string (bs A), .int .u8 c, .string (bs B)] w fun e w' => e = .returned (.bool true) ∧ Tch [] w w' := by
  have hsA := bs_size A
  have hsB := bs_size B
  have HTB := Lib.hid ht
  by_cases hA0 : A.length ≤ 2147483647
  rotate_left
  · have g1 : (2147483647 : Int) < (A.length : Int) := by omega
    go_enter Tryz.func11, Tryz.ntmps11
    go_wp2_with fail
    go_ret
    exact ⟨rfl, Tch.refl _ _⟩
  by_cases hB0 : B.length ≤ 2147483647
  rotate_left
  · have g0 : (A.length : Int) ≤ 2147483647 := by omega
    have g1 : (2147483647 : Int) < (B.length : Int) := by omega
    go_enter Tryz.func11, Tryz.ntmps11
    go_wp2_with fail
    go_ret
    exact ⟨rfl, Tch.refl _ _⟩
  have g0 : (A.length : Int) ≤ 2147483647 := by omega
  have g1 : (B.length : Int) ≤ 2147483647 := by omega
  have d0 : decide ((2147483647 : Int) < (A.length : Int)) = false := decide_eq_false (by omega)
  have d1 : decide ((2147483647 : Int) < (B.length : Int)) = false := decide_eq_false (by omega)
  by_cases hc2 : c < 97
  · clear ht hA0 hB0
    go_enter Tryz.func11, Tryz.ntmps11
    go_wp2_with fail
    go_ret
    exact ⟨rfl, Tch.refl _ _⟩
  by_cases hc3 : 122 < c
  · have hc4 : 97 ≤ c := by omega
    clear ht hA0 hB0 hc2
    go_enter Tryz.func11, Tryz.ntmps11
    go_wp2_with fail
    go_ret
    exact ⟨rfl, Tch.refl _ _⟩
  have hc4 : 97 ≤ c := by omega
  have hc5 : c ≤ 122 := by omega
  have HSA := Lib.hid (short_any A w hA0)
  have HSB := Lib.hid (fun w' => short_any B w' hB0)
  clear ht hA0 hB0 hc2 hc3
  go_enter Tryz.func11, Tryz.ntmps11
  go_wp2_with fail
  clear d0 d1
  refine HSA.out.mono ?_
  rintro e w1 ⟨b, rfl, t, hb⟩
  have HT1 := Lib.hid t
  have HB1 := Lib.hid hb
  clear t hb
  cases b with
  | false =>
    go_wp2_with fail
    go_ret
    exact ⟨rfl, HT1.out⟩
  | true =>
    go_wp2_with fail
    refine (HSB.out w1).mono ?_
    rintro e w2 ⟨b, rfl, t, hb⟩
    have HT2 := Lib.hid (HT1.out.trans t)
    have HB2 := Lib.hid hb
    clear t hb
    cases b with
    | false =>
      go_wp2_with fail
      go_ret
      exact ⟨rfl, HT2.out⟩
    | true =>
      obtain ⟨la, ra⟩ := HB1.out (by simp)
      obtain ⟨lb, rb⟩ := HB2.out (by simp)
      have HLA := Lib.hid la
      have HLB := Lib.hid lb
      have HRA := Lib.hid ra
      have HRB := Lib.hid rb
      obtain ⟨x, henc, hx⟩ := enc_L hc4 hc5
      have HX := Lib.hid hx
      have hap1 := bs_app A [x]
      have hap2 := bs_app (A ++ [x]) B
      rw [List.append_assoc, List.singleton_append] at hap2
      have hs1 := bs_size [x]
      have hs2 := bs_size (A ++ [x])
      have hs3 := bs_size (A ++ x :: B)
      simp only [List.length_append, List.length_nil, List.length_cons, Nat.zero_add] at hs1 hs2 hs3
      have HLC := Lib.hid (fun w3 (t : Tch [] w2 w3) => letter_call w3 (T := A ++ x :: B) (parse_L hx (by simp)) (by simp; omega) (small_mid hx ra rb) (HTB.out.tch (HT2.out.trans t)))
      have HIG := Lib.hid (ignore_any (A ++ x :: B) w2 (by simp; omega) (HTB.out.tch HT2.out) (small_mid hx ra rb))
      rw [parse_L hx (l := A ++ x :: B) (by simp)] at HIG
      have hlaI : (A.length : Int) ≤ 400 := by omega
      have hlbI : (B.length : Int) ≤ 400 := by omega
      clear la lb ra rb HSA HSB HB1 HB2 hx
      go_wp2_with fail
      refine HIG.out.mono ?_
      rintro e w3 ⟨ia, iq, n, f, rfl, ho, -, -, -⟩
      have HT3 := Lib.hid (HT2.out.trans ho.t)
      have HLC3 := Lib.hid (HLC.out w3 ho.t)
      clear ho HIG HLC henc hap1 hap2 hs1 hs2
      simp only [Option.isSome_none]
      have kc0 := Go.Joins.run_convert_bytes_const_at (P := Tryz.prog) w3 23 5 #[.int .u8 97, .int .u8 98] 2 2 w3.heap.size rfl Tryz.underlying23 Tryz.underlying5
      have kc1 := Go.Joins.run_convert_bytes_const_at (P := Tryz.prog) (w3.alloc (.cells #[.int .u8 97, .int .u8 98] 5 (2, 3))) 23 5 #[.int .u8 97, .int .u8 98] 2 2 (w3.heap.size + 1) (by simp) Tryz.underlying23 Tryz.underlying5
      have kc2 := Go.Joins.run_convert_bytes_const_at (P := Tryz.prog) ((w3.alloc (.cells #[.int .u8 97, .int .u8 98] 5 (2, 3))).alloc (.cells #[.int .u8 97, .int .u8 98] 5 (2, 3))) 23 5 #[.int .u8 97] 1 1 (w3.heap.size + 2) (by simp) Tryz.underlying23 Tryz.underlying5
      have kc3 := Go.Joins.run_convert_bytes_const_at (P := Tryz.prog) (((w3.alloc (.cells #[.int .u8 97, .int .u8 98] 5 (2, 3))).alloc (.cells #[.int .u8 97, .int .u8 98] 5 (2, 3))).alloc (.cells #[.int .u8 97] 5 (1, 2))) 23 5 #[.int .u8 97, .int .u8 98] 2 2 (w3.heap.size + 3) (by simp) Tryz.underlying23 Tryz.underlying5
      simp only [List.size_toArray, List.length_cons, List.length_nil, Nat.zero_add, Nat.reduceAdd] at kc0 kc1 kc2 kc3
      go_wp2_with fail
      refine HLC3.out.mono ?_
      rintro e w4 ⟨g, oc, a1, q1, a3, q3, rfl, t, x0, x5, x13, u3⟩
      have HT4 := Lib.hid (HT3.out.trans t)
      have HU := Lib.hid u3
      clear t u3 kc0 kc1 kc2 kc3 HLC3
      go_wp2_with fail
      refine (alike_any (w4.alloc (.cells #[.int .u64 4] 26)) [4] [4] a3 (some ⟨w4.heap.size, 0, none⟩) q3 1 (HU.out.tch ((Tch.refl [] w4).alloc _)) ⟨fun j hj => ?_⟩ (by simp) (by simp)).mono ?_
      · have hj0 : j = 0 := by simp at hj; omega
        subst hj0
        exact ⟨_, rfl, by
          rw [addr_add0]
          have h := heap_alloc_new w4 (.cells #[.int .u64 4] 26)
          simp only [World.cell?, h]
          rfl⟩
      rintro e w5 ⟨rfl, t⟩
      have HT5 := Lib.hid ((HT4.out.trans ((Tch.refl [] w4).alloc (.cells #[.int .u64 4] 26))).trans t)
      clear t
      go_wp2_with fail
      go_ret
      exact ⟨rfl, HT5.out⟩

/-- The law, of texts that came in. -/
theorem letterB_any (s t : ByteArray) (c : Int) (hc : 0 ≤ c ∧ c < 256) (w : World) (ht : Tabs w) :
    Calls Tryz.prog 11 #[.string s, .int .u8 c, .string t] w fun e w' => e = .returned (.bool true) ∧ Tch [] w w' := by
  rw [bs_of s, bs_of t]
  exact letter_any _ _ c hc.1 hc.2 w ht

end Go.Proofs.YtcolffccbmpndaaGreatDoor
