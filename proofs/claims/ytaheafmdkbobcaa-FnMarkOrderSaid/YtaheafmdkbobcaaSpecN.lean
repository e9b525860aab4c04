/- spec's step, of whatever kind. -/
import Derived.Test.YtaheafmdkbobcaaSpecM
import Derived.Test.YtaheafmdkbobcaaSpecL
namespace Go.Proofs.Ytaheafmdkbobcaa
open Go.RowKit

theorem sstep_any (kd ix : Int) (am : Option Addr) (cm : Nat) (zs : List Int) (tb : Nat) (fp : List Nat) (N : Nat) (q : MSt × List Int) (w : World) (hN : N + zs.length ≤ 90000) (hx : ix ≤ MAX) (hzx : ∀ z ∈ zs, z ≤ MAX) (h : SpAt w tb fp N q)
    (hm : am = none → cm = 0 ∧ zs.length = 0) (hr : ∀ ad, am = some ad → ∀ j, j < zs.length → ad.block < w.heap.size ∧ w.cell? (ad.add j) = some (.int .u64 (zs.getD j 0))) (hfr : ∀ ad, am = some ad → 0 < zs.length → ad.block ∉ fp) :
    Calls Try.prog 18 #[ptr tb, stepVal kd ix am zs.length cm] w (Stepped w tb fp N q ⟨kd, ix, zs⟩) := by
  by_cases h0 : kd = 0
  · subst h0; exact sstep_begin ix am cm zs tb fp N q w (by omega) hx h
  by_cases h1 : kd = 1
  · subst h1; exact sstep_bmany ix am cm zs tb fp N q w hN hzx h hm hr hfr
  by_cases h2 : kd = 2
  · subst h2; exact sstep_finish ix am cm zs tb fp N q w (by omega) h
  by_cases h3 : kd = 3
  · subst h3; exact sstep_dmany ix am cm zs tb fp N q w hN h hm hr hfr
  by_cases h4 : kd = 4
  · subst h4; exact sstep_wait ix am cm zs tb fp N q w (by omega) h
  by_cases h5 : kd = 5
  · subst h5; exact sstep_set ix am cm zs tb fp N q w (by omega) h
  exact sstep_none kd ix am cm zs tb fp N q w h0 h1 h2 h3 h4 h5

end Go.Proofs.Ytaheafmdkbobcaa
