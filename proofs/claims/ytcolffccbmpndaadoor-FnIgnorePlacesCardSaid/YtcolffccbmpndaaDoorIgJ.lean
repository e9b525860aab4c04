/- spec.HolesText, walked. -/
import Derived.Test.YtcolffccbmpndaaDoorIgH
namespace Go.Proofs.YtcolffccbmpndaaDoor
open Go.RowKit Go.Deep
set_option maxRecDepth 100000

/-- What HolesText tells. -/
def HtEnd (f : Nat → Bool) (n : Nat) (w : World) (e : Ending) (w' : World) : Prop :=
  ∃ o, e = .returned (.string (bs o)) ∧ w' = w ∧ TextOk f n o

set_option maxHeartbeats 4000000 in
theorem holesText_any (v : Value) (n : Nat) (f : Nat → Bool) (rg bk : Bool) (w : World) (h : BlAt w v n f) (hn : n ≤ 5000) :
    Calls Tryd.prog 10 #[v, .bool rg, .bool bk] w (HtEnd f n w) := by
  have HD := Lib.hid (fun (n : Nat) (hn : n ≤ 9999) (w' : World) => decimal_any n w' hn)
  have HN := Lib.hid hn
  have hnI : (n : Int) ≤ 5000 := by omega
  have H := Lib.hid h
  obtain ⟨a, c, rfl, -⟩ := h
  have HBL : Hid (0 < n → ∃ ad : Addr, a = some ad ∧ ∀ j, j < n → w.cell? (ad.add j) = some (.bool (f j))) := Lib.hid (by
    obtain ⟨a', c', e, h2⟩ := H.out
    simp only [Value.slice.injEq, true_and] at e
    rw [e.1]; exact h2)
  clear H hn
  have hk : ∃ (k : Nat) (cm dm : ByteArray), k ≤ 1 ∧ cm = bs (comma k) ∧ dm = bs (dash k) ∧ cm = (if bk then ⟨#[32, 44, 32]⟩ else ⟨#[44]⟩) ∧ dm = (if bk then ⟨#[32, 45, 32]⟩ else ⟨#[45]⟩) := by
    cases bk
    · exact ⟨0, bs (comma 0), bs (dash 0), by omega, rfl, rfl, rfl, rfl⟩
    · exact ⟨1, bs (comma 1), bs (dash 1), by omega, rfl, rfl, rfl, rfl⟩
  obtain ⟨k, cm, dm, hk1, hcm, hdm, hcm2, hdm2⟩ := hk
  have HK := Lib.hid hk1
  have HCM := Lib.hid hcm
  have HDM := Lib.hid hdm
  have hcs : cm.size = 2 * k + 1 := by rw [hcm, bs_size]; unfold comma sp; simp; omega
  have hds : dm.size = 2 * k + 1 := by rw [hdm, bs_size]; unfold dash sp; simp; omega
  have HCS := Lib.hid hcs
  have HDS := Lib.hid hds
  clear hcm hdm hcs hds hk1
  cases bk
  all_goals
    simp only [if_true, if_false, Bool.false_eq_true] at hcm2 hdm2
    go_enter Tryd.func10, Tryd.ntmps10
    go_wp2_with fail
    simp only [← hcm2, ← hdm2]
    clear hcm2 hdm2
    go_loopg [9, 10] (n + 1) (fun nn s9 s10 wr => ∃ (i : Nat) (o : List UInt8), i ≤ n ∧ nn = n + 1 - i ∧ s9 = .string (bs o) ∧ s10 = .int .i64 i ∧ wr = w ∧ Hid (TextOk f i o))
    case atStart => exact ⟨0, [], Nat.zero_le _, rfl, rfl, rfl, rfl, Nat.zero_le _, .inl ⟨rfl, fun j hj => absurd hj (Nat.not_lt_zero j)⟩⟩
    case round =>
      obtain ⟨i, o, hi, rfl, rfl, rfl, rfl, HR⟩ := hrel
      rename World => wr
      by_cases hlt : i < n
      · obtain ⟨ad, rfl, hc⟩ := HBL.out (by omega)
        have HLT := Lib.hid hlt
        have HC := Lib.hid hc
        have hlt2 : (i : Int) < (n : Int) := by omega
        have hci := hc i hlt
        clear hc hi hlt HBL
        cases hfi : f i with
        | false =>
          rw [hfi] at hci
          have HF := Lib.hid hfi
          clear hfi
          go_wp2_with fail
          go_roundg (n + 1 - (i + 1))
          case rel => exact ⟨i + 1, o, by have := HLT.out; omega, rfl, rfl, by go_num, rfl, text_skip HR.out HF.out⟩
          case measure => have := HLT.out; omega
        | true =>
          rw [hfi] at hci
          have HF := Lib.hid hfi
          clear hfi
          have hol : (o.length : Int) ≤ 100000 := by have := HR.out.1; have := HLT.out; have := HN.out; omega
          have hso : (bs o).size = o.length := bs_size o
          have HDD := Lib.hid (HD.out i (by have := HLT.out; have := HN.out; omega))
          have hii : (i : Int) ≤ 5000 := by omega
          cases ho : o
          case' nil =>
            subst ho
            clear hol hso
            go_wp2_with fail
            refine (HDD.out _).mono ?_
            rintro e w1 ⟨ds, rfl, hw, hds, hv⟩
            rw [hw]
            obtain ⟨o1, ho1⟩ : ∃ o1, o1 = ([] : List UInt8) ++ ds := ⟨_, rfl⟩
            have HT1 := Lib.hid (text_num HK.out HR.out hds hv HF.out)
            have HT2 := Lib.hid (fun last es he hve hl hf => text_range (last := last) (es := es) HK.out HR.out hds hv he hve hl hf)
            have hd4 := hds.len
            have hol1 : (o1.length : Int) ≤ 100010 := by rw [ho1]; simp; omega
            rw [if_pos rfl, ← ho1] at HT1 HT2
            have hcat : bs ([] : List UInt8) ++ bs ds = bs o1 := by rw [ho1]; exact bs_append _ _
            have hcz : (bs ([] : List UInt8)).size = 0 := rfl
            have hcd : (bs ds).size = ds.length := bs_size _
            have hd5 : (ds.length : Int) ≤ 4 := by omega
            clear hds hv hw hd4 ho1
          case' cons x t =>
            rw [← ho]
            have hne : o ≠ [] := by rw [ho]; simp
            have hb0 : (o == []) = false := by simpa using hne
            have hb1 : o.isEmpty = false := by simpa using hne
            have HO := Lib.hid hne
            have hcs : cm.size = 2 * k + 1 := HCS.out
            have hk2 : (k : Int) ≤ 1 := by have := HK.out; omega
            clear hne ho
            have hcc : bs o ++ cm = bs (o ++ comma k) := by rw [HCM.out]; exact bs_append _ _
            go_wp2_with fail
            clear hcc hcs hb0 hb1
            refine (HDD.out _).mono ?_
            rintro e w1 ⟨ds, rfl, hw, hds, hv⟩
            rw [hw]
            obtain ⟨o1, ho1⟩ : ∃ o1, o1 = o ++ comma k ++ ds := ⟨_, rfl⟩
            have HT1 := Lib.hid (text_num HK.out HR.out hds hv HF.out)
            have HT2 := Lib.hid (fun last es he hve hl hf => text_range (last := last) (es := es) HK.out HR.out hds hv he hve hl hf)
            have hd4 := hds.len
            have hcl : (comma k).length = 2 * k + 1 := by unfold comma sp; simp; omega
            have hol1 : (o1.length : Int) ≤ 100010 := by rw [ho1, List.length_append, List.length_append, hcl]; omega
            rw [if_neg HO.out, ← ho1] at HT1 HT2
            have hcat : bs (o ++ comma k) ++ bs ds = bs o1 := by rw [ho1]; exact bs_append _ _
            have hcz : (bs (o ++ comma k)).size = o.length + (2 * k + 1) := by rw [bs_size, List.length_append, hcl]
            have hcd : (bs ds).size = ds.length := bs_size _
            have hd5 : (ds.length : Int) ≤ 4 := by omega
            clear hds hv hw hd4 ho1 hcl HO hso
          all_goals
            clear HDD
            go_wp2_with fail
            clear hcat hcz hcd hd5
            have hs1 : (bs o1).size = o1.length := bs_size _
            go_loopg [11] (n - i) (fun nn s11 wz => ∃ m : Nat, i ≤ m ∧ m < n ∧ nn = n - m ∧ s11 = .int .i64 m ∧ wz = wr ∧ Hid (∀ j, i ≤ j → j ≤ m → f j = true))
            case atStart => exact ⟨i, Nat.le_refl _, HLT.out, by rfl, rfl, rfl, fun j h1 h2 => by rw [show j = i by omega]; exact HF.out⟩
            case round =>
              obtain ⟨m, hm1, hm2, rfl, rfl, rfl, HM⟩ := hrel
              rename World => wz
              have HM1 := Lib.hid hm1
              have HM2 := Lib.hid hm2
              have hm5 : (m : Int) < 5000 := by have := HN.out; omega
              by_cases hgo : rg = true ∧ m + 1 < n ∧ f (m + 1) = true
              · obtain ⟨rfl, hm3, hfm⟩ := hgo
                have hcm := HC.out (m + 1) hm3
                rw [hfm, show ad.add (m + 1) = ⟨ad.block, ad.off + (m + 1), none⟩ by unfold Addr.add; simp] at hcm
                have hm4 : (m : Int) + 1 < (n : Int) := by omega
                have HM3 := Lib.hid hm3
                have HFM := Lib.hid hfm
                clear hm1 hm2 hm3 hfm
                go_wp2_with fail
                go_roundg (n - (m + 1))
                case rel =>
                  refine ⟨m + 1, by have := HM1.out; omega, HM3.out, rfl, by go_num, rfl, fun j h1 h2 => ?_⟩
                  by_cases e : j = m + 1
                  · rw [e]; exact HFM.out
                  · exact HM.out j h1 (by omega)
                case measure => have := HM3.out; omega
              · have hx : rg = false ∨ (rg = true ∧ n ≤ m + 1) ∨ (rg = true ∧ m + 1 < n ∧ f (m + 1) = false) := by
                  cases rg
                  · exact .inl rfl
                  · by_cases h1 : m + 1 < n
                    · refine .inr (.inr ⟨rfl, h1, ?_⟩)
                      cases hfm : f (m + 1)
                      · rfl
                      · exact absurd ⟨rfl, h1, hfm⟩ hgo
                    · exact .inr (.inl ⟨rfl, by omega⟩)
                clear hgo
                rcases hx with rfl | ⟨rfl, hx⟩ | ⟨rfl, hx, hfm⟩
                case' inr.inl =>
                  have hx2 : (n : Int) ≤ (m : Int) + 1 := by omega
                  clear hx
                case' inr.inr =>
                  have hx2 : (m : Int) + 1 < (n : Int) := by omega
                  have hcm := HC.out (m + 1) hx
                  rw [hfm, show ad.add (m + 1) = ⟨ad.block, ad.off + (m + 1), none⟩ by unfold Addr.add; simp] at hcm
                  clear hx hfm
                all_goals
                  by_cases hmi : m = i
                  · subst hmi
                    clear hm1 hm2
                    go_wp2_with fail
                    go_roundg (n + 1 - (m + 1))
                    case rel => exact ⟨m + 1, o1, HM2.out, rfl, rfl, by go_num, rfl, HT1.out⟩
                    case measure => have := HM2.out; omega
                  · have hmi2 : (i : Int) < (m : Int) := by omega
                    have HMI := Lib.hid (show i < m by omega)
                    have HDM1 := Lib.hid (HD.out m (by omega))
                    clear hm1 hm2 hmi
                    go_wp2_with fail
                    refine (HDM1.out _).mono ?_
                    rintro e w2 ⟨es, rfl, hw, hes, hv⟩
                    rw [hw]
                    have HT3 := Lib.hid (HT2.out m es hes hv HM1.out HM.out)
                    have he4 := hes.len
                    have he5 : (es.length : Int) ≤ 4 := by omega
                    have hds : dm.size = 2 * k + 1 := HDS.out
                    have hk2 : (k : Int) ≤ 1 := by have := HK.out; omega
                    have hce : (bs es).size = es.length := bs_size _
                    have hcat2 : dm ++ bs es = bs (dash k ++ es) := by rw [HDM.out]; exact bs_append _ _
                    have hcz2 : (bs (dash k ++ es)).size = 2 * k + 1 + es.length := by rw [bs_size, List.length_append]; unfold dash sp; simp; omega
                    have hcat3 : bs o1 ++ bs (dash k ++ es) = bs (o1 ++ (dash k ++ es)) := bs_append _ _
                    clear hes hv hw he4
                    go_wp2_with fail
                    go_roundg (n + 1 - (m + 1))
                    case rel => exact ⟨m + 1, _, HM2.out, rfl, rfl, by go_num, rfl, HT3.out⟩
                    case measure => have := HM2.out; have := HMI.out; omega
      · obtain rfl : i = n := by omega
        clear hlt hi
        go_wp2_with fail
        go_ret
        exact ⟨o, rfl, rfl, HR.out⟩

end Go.Proofs.YtcolffccbmpndaaDoor
