/-
  spec.Stamp: the same text of a time. Conditions: as each theorem says.
-/
import Derived.Test.YtdbnconphcaclaaDoorUnix
namespace Go.Proofs.YtdbnconphcaclaaDoor
open Go.RowKit
set_option linter.unusedVariables false

set_option maxRecDepth 100000 in
theorem floor_1000000000 (a q : Int) (hq : q = a / 1000000000) (h0 : -9223372036854775808 ≤ a) (h1 : a ≤ 9223372036854775807) (w : World) :
    Calls Tryd.prog 40 #[.int .i64 a, .int .i64 1000000000] w fun e w' => e = .returned (.int .i64 q) ∧ w' = w := by
  by_cases hn : a < 0
  · obtain ⟨T, eT⟩ : ∃ T : Int, a.tdiv 1000000000 = T := ⟨_, rfl⟩
    obtain ⟨V, eV⟩ : ∃ V : Int, a.tmod 1000000000 = V := ⟨_, rfl⟩
    have hT := Int.tdiv_mul_add_tmod a 1000000000
    have hV0 := Int.tmod_nonneg (a := -a) 1000000000 (by omega)
    have hV1 := Int.tmod_lt_of_pos (-a) (show (0 : Int) < 1000000000 by decide)
    rw [Int.neg_tmod] at hV0 hV1
    rw [eT, eV] at hT
    rw [eV] at hV0 hV1
    have v0 : -1000000000 < V := by omega
    have v1 : V ≤ 0 := by omega
    have t0 : -9223372036854775807 ≤ T := by omega
    have t1 : T ≤ 0 := by omega
    have HZ := Lib.hid (And.intro hq hT)
    clear hq hT hV0 hV1
    by_cases hv : V < 0
    · go_enter Tryd.func40, Tryd.ntmps40
      go_wp2
      go_ret
      refine ⟨ret_int ?_, rfl⟩
      have := HZ.out; omega
    · go_enter Tryd.func40, Tryd.ntmps40
      go_wp2
      go_ret
      refine ⟨ret_int ?_, rfl⟩
      have := HZ.out; omega
  · have HZ := Lib.hid hq
    clear hq
    have hm : ¬ a % 1000000000 < 0 := by omega
    go_enter Tryd.func40, Tryd.ntmps40
    go_wp2
    go_ret
    exact ⟨ret_int (by have := HZ.out; omega), rfl⟩
set_option maxRecDepth 100000 in
theorem floor_86400 (a q : Int) (hq : q = a / 86400) (h0 : -9223372036854775808 ≤ a) (h1 : a ≤ 9223372036854775807) (w : World) :
    Calls Tryd.prog 40 #[.int .i64 a, .int .i64 86400] w fun e w' => e = .returned (.int .i64 q) ∧ w' = w := by
  by_cases hn : a < 0
  · obtain ⟨T, eT⟩ : ∃ T : Int, a.tdiv 86400 = T := ⟨_, rfl⟩
    obtain ⟨V, eV⟩ : ∃ V : Int, a.tmod 86400 = V := ⟨_, rfl⟩
    have hT := Int.tdiv_mul_add_tmod a 86400
    have hV0 := Int.tmod_nonneg (a := -a) 86400 (by omega)
    have hV1 := Int.tmod_lt_of_pos (-a) (show (0 : Int) < 86400 by decide)
    rw [Int.neg_tmod] at hV0 hV1
    rw [eT, eV] at hT
    rw [eV] at hV0 hV1
    have v0 : -86400 < V := by omega
    have v1 : V ≤ 0 := by omega
    have t0 : -9223372036854775807 ≤ T := by omega
    have t1 : T ≤ 0 := by omega
    have HZ := Lib.hid (And.intro hq hT)
    clear hq hT hV0 hV1
    by_cases hv : V < 0
    · go_enter Tryd.func40, Tryd.ntmps40
      go_wp2
      go_ret
      refine ⟨ret_int ?_, rfl⟩
      have := HZ.out; omega
    · go_enter Tryd.func40, Tryd.ntmps40
      go_wp2
      go_ret
      refine ⟨ret_int ?_, rfl⟩
      have := HZ.out; omega
  · have HZ := Lib.hid hq
    clear hq
    have hm : ¬ a % 86400 < 0 := by omega
    go_enter Tryd.func40, Tryd.ntmps40
    go_wp2
    go_ret
    exact ⟨ret_int (by have := HZ.out; omega), rfl⟩
set_option maxRecDepth 100000 in
theorem floor_146097 (a q : Int) (hq : q = a / 146097) (h0 : -9223372036854775808 ≤ a) (h1 : a ≤ 9223372036854775807) (w : World) :
    Calls Tryd.prog 40 #[.int .i64 a, .int .i64 146097] w fun e w' => e = .returned (.int .i64 q) ∧ w' = w := by
  by_cases hn : a < 0
  · obtain ⟨T, eT⟩ : ∃ T : Int, a.tdiv 146097 = T := ⟨_, rfl⟩
    obtain ⟨V, eV⟩ : ∃ V : Int, a.tmod 146097 = V := ⟨_, rfl⟩
    have hT := Int.tdiv_mul_add_tmod a 146097
    have hV0 := Int.tmod_nonneg (a := -a) 146097 (by omega)
    have hV1 := Int.tmod_lt_of_pos (-a) (show (0 : Int) < 146097 by decide)
    rw [Int.neg_tmod] at hV0 hV1
    rw [eT, eV] at hT
    rw [eV] at hV0 hV1
    have v0 : -146097 < V := by omega
    have v1 : V ≤ 0 := by omega
    have t0 : -9223372036854775807 ≤ T := by omega
    have t1 : T ≤ 0 := by omega
    have HZ := Lib.hid (And.intro hq hT)
    clear hq hT hV0 hV1
    by_cases hv : V < 0
    · go_enter Tryd.func40, Tryd.ntmps40
      go_wp2
      go_ret
      refine ⟨ret_int ?_, rfl⟩
      have := HZ.out; omega
    · go_enter Tryd.func40, Tryd.ntmps40
      go_wp2
      go_ret
      refine ⟨ret_int ?_, rfl⟩
      have := HZ.out; omega
  · have HZ := Lib.hid hq
    clear hq
    have hm : ¬ a % 146097 < 0 := by omega
    go_enter Tryd.func40, Tryd.ntmps40
    go_wp2
    go_ret
    exact ⟨ret_int (by have := HZ.out; omega), rfl⟩
end Go.Proofs.YtdbnconphcaclaaDoor
