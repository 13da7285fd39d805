/-
  The law FnLogPass: an event is written if its level is at least the logger's and the global one, and not the level disabled. Conditions: as the theorem says.
-/
import Derived.Test.YtdbnconphcaclaaGreatDoorPLPass2
namespace Go.Proofs.YtdbnconphcaclaaGreatDoor
open Go.RowKit
set_option linter.unusedVariables false

set_option maxRecDepth 100000 in
set_option maxHeartbeats 2000000 in
theorem pass_law (lv g l : Int) (hlv : -9223372036854775808 ≤ lv ∧ lv ≤ 9223372036854775807) (hg : -9223372036854775808 ≤ g ∧ g ≤ 9223372036854775807) (hl : -9223372036854775808 ≤ l ∧ l ≤ 9223372036854775807) (w : World) :
    Calls Tryz.prog 3 #[.int .i64 lv, .int .i64 g, .int .i64 l] w fun e w' => e = .returned (.bool true) ∧ Below w.heap.size w w' := by
  by_cases hb : -1 ≤ lv ∧ lv ≤ 7 ∧ -1 ≤ g ∧ g ≤ 7 ∧ -1 ≤ l ∧ l ≤ 7
  · obtain ⟨h1, h2, h3, h4, h5, h6⟩ := hb
    have hL := Lib.hid (lpass_any lv g l w h1 h2 h3 h4 h5 h6)
    by_cases c1 : lv ≤ l
    · by_cases c2 : g ≤ l
      · by_cases c3 : l < 7
        · have hr := Lib.hid (show passB lv g l = true by unfold passB; simp only [decide_eq_true_eq]; omega)
          go_enter Tryz.func3, Tryz.ntmps3
          go_wp2_with (first
            | (go_at_call 5; refine (awake_any _).mono ?_; rintro e w2 ⟨rfl, n2, rfl⟩)
            | (go_at_call 4; refine hL.out.mono ?_; rintro e w1 ⟨rfl, hb1⟩; rw [hr.out]; have H1 := Lib.hid hb1; clear hb1))
          all_goals first
            | (go_ret; exact ⟨rfl, below_drewN H1.out _⟩)
            | (go_ret; exact ⟨rfl, Below.refl _ _⟩)
            | (exfalso; omega)
        · obtain rfl : l = 7 := by omega
          have hr := Lib.hid (show passB lv g 7 = false by unfold passB; simp only [decide_eq_false_iff_not]; omega)
          go_enter Tryz.func3, Tryz.ntmps3
          go_wp2_with (first
            | (go_at_call 5; refine (awake_any _).mono ?_; rintro e w2 ⟨rfl, n2, rfl⟩)
            | (go_at_call 4; refine hL.out.mono ?_; rintro e w1 ⟨rfl, hb1⟩; rw [hr.out]; have H1 := Lib.hid hb1; clear hb1))
          all_goals first
            | (go_ret; exact ⟨rfl, below_drewN H1.out _⟩)
            | (go_ret; exact ⟨rfl, Below.refl _ _⟩)
            | (exfalso; omega)
      · have hr := Lib.hid (show passB lv g l = false by unfold passB; simp only [decide_eq_false_iff_not]; omega)
        go_enter Tryz.func3, Tryz.ntmps3
        go_wp2_with (first
          | (go_at_call 5; refine (awake_any _).mono ?_; rintro e w2 ⟨rfl, n2, rfl⟩)
          | (go_at_call 4; refine hL.out.mono ?_; rintro e w1 ⟨rfl, hb1⟩; rw [hr.out]; have H1 := Lib.hid hb1; clear hb1))
        all_goals first
          | (go_ret; exact ⟨rfl, below_drewN H1.out _⟩)
          | (go_ret; exact ⟨rfl, Below.refl _ _⟩)
          | (exfalso; omega)
    · have hr := Lib.hid (show passB lv g l = false by unfold passB; simp only [decide_eq_false_iff_not]; omega)
      go_enter Tryz.func3, Tryz.ntmps3
      go_wp2_with (first
        | (go_at_call 5; refine (awake_any _).mono ?_; rintro e w2 ⟨rfl, n2, rfl⟩)
        | (go_at_call 4; refine hL.out.mono ?_; rintro e w1 ⟨rfl, hb1⟩; rw [hr.out]; have H1 := Lib.hid hb1; clear hb1))
      all_goals first
        | (go_ret; exact ⟨rfl, below_drewN H1.out _⟩)
        | (go_ret; exact ⟨rfl, Below.refl _ _⟩)
        | (exfalso; omega)
  · go_enter Tryz.func3, Tryz.ntmps3
    go_wp2
    all_goals first
      | (go_ret; exact ⟨rfl, Below.refl _ _⟩)
      | (exfalso; omega)
end Go.Proofs.YtdbnconphcaclaaGreatDoor
