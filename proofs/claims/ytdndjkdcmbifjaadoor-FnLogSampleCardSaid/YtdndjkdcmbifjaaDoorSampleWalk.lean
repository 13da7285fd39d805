/-
  FnLogSample returns true for every n and count: a sampler of n lets just every n-th event pass. Conditions: none.
-/
import Derived.Test.YtdndjkdcmbifjaaDoorSample
namespace Go.Proofs.YtdndjkdcmbifjaaDoor
open Go.RowKit
set_option linter.unusedVariables false

theorem sample_law (n count : Int) (hn : 0 ≤ n ∧ n ≤ 4294967295) (hc : 0 ≤ count ∧ count ≤ 65535) (w : World) :
    Calls Tryd.prog 4 #[.int .u32 n, .int .u16 count] w fun e w' => e = .returned (.bool true) ∧ Below w.heap.size w w' := by
  obtain ⟨hn0, hn1⟩ := hn
  obtain ⟨hc0, hc1⟩ := hc
  by_cases g0 : n < 1
  · go_enter Tryd.func4, Tryd.ntmps4
    go_wp2
    go_ret
    exact ⟨rfl, Below.refl _ _⟩
  by_cases g1 : 1000 < n
  · go_enter Tryd.func4, Tryd.ntmps4
    go_wp2
    go_ret
    exact ⟨rfl, Below.refl _ _⟩
  by_cases g2 : 3000 < count
  · go_enter Tryd.func4, Tryd.ntmps4
    go_wp2
    go_ret
    exact ⟨rfl, Below.refl _ _⟩
  obtain ⟨N, rfl⟩ := Int.eq_ofNat_of_zero_le hn0
  obtain ⟨m, rfl⟩ := Int.eq_ofNat_of_zero_le hc0
  go_enter Tryd.func4, Tryd.ntmps4
  go_wp2_with (first
    | (go_at_call 10; refine (lsample _ _ _ (by omega) (by omega) (by omega)).mono ?_; rintro e w1 ⟨v, rfl, hown, hbel⟩; obtain ⟨A, c, rfl⟩ := own_slice hown)
    | (go_at_call 11; refine (levery _ _ _ _ _ _ (Reads.of_own hown) (by omega) (by omega) (by omega)).mono ?_; rintro e w2 ⟨rfl, rfl⟩)
    | (go_at_call 9; refine (awake_any _).mono ?_; rintro e w' ⟨rfl, n2, rfl⟩))
  go_ret
  exact ⟨rfl, below_drewN hbel _⟩
end Go.Proofs.YtdndjkdcmbifjaaDoor
