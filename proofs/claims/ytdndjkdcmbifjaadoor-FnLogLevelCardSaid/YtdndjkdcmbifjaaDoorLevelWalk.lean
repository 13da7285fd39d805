/-
  FnLogLevel returns true for every int: levels from -1 to 7 are read back from their texts, which are those of the reference. Conditions: none.
-/
import Derived.Test.YtdndjkdcmbifjaaDoorAwake
namespace Go.Proofs.YtdndjkdcmbifjaaDoor
open Go.RowKit
set_option linter.unusedVariables false

theorem below_drewN {B : Nat} {a w : World} (h : Below B a w) (n : Nat) : Below B a (w.drewN n) := ⟨h.os, h.tape, h.output, h.size, h.block⟩

/-- THE TEXTS OF THE LEVELS, AS THE REFERENCE LAYS THEM IN NEW MEMORY. -/
theorem names_any (w : World) :
    Calls Tryd.prog 8 #[] w fun e w' => e = .returned (.slice (some ⟨w.heap.size, 0, none⟩) 9 9) ∧ Below w.heap.size w w' ∧ ∀ i : Nat, i ≤ 8 → w'.cell? ⟨w.heap.size, i, none⟩ = some (.string (lstr ((i : Int) - 1))) := by
  go_enter Tryd.func8, Tryd.ntmps8
  go_wp2
  go_ret
  refine ⟨rfl, (Below.refl _ _).alloc (Nat.le_refl _) _, fun i hi => ?_⟩
  have h : i = 0 ∨ i = 1 ∨ i = 2 ∨ i = 3 ∨ i = 4 ∨ i = 5 ∨ i = 6 ∨ i = 7 ∨ i = 8 := by omega
  rcases h with rfl | rfl | rfl | rfl | rfl | rfl | rfl | rfl | rfl <;> (rw [World.cell?_alloc_at _ _ _ _ rfl]; rfl)

theorem level_law (l : Int) (hb : -9223372036854775808 ≤ l ∧ l ≤ 9223372036854775807) (w : World) :
    Calls Tryd.prog 3 #[.int .i64 l] w fun e w' => e = .returned (.bool true) ∧ Below w.heap.size w w' := by
  by_cases h0 : l < -1
  · go_enter Tryd.func3, Tryd.ntmps3
    go_wp2
    go_ret
    exact ⟨rfl, Below.refl _ _⟩
  by_cases h1 : 7 < l
  · go_enter Tryd.func3, Tryd.ntmps3
    go_wp2
    go_ret
    exact ⟨rfl, Below.refl _ _⟩
  have hl : l = -1 ∨ l = 0 ∨ l = 1 ∨ l = 2 ∨ l = 3 ∨ l = 4 ∨ l = 5 ∨ l = 6 ∨ l = 7 := by omega
  rcases hl with rfl | rfl | rfl | rfl | rfl | rfl | rfl | rfl | rfl
  · have es : ((lstr (-1)).toList == (lstr (-1)).toList) = true := by simp
    go_enter Tryd.func3, Tryd.ntmps3
    go_wp2_with (first | (go_at_call 6; refine (lparse _ _ (by decide) (by decide)).mono ?_; rintro e w' ⟨rfl, n, rfl⟩) | (go_at_call 7; refine (llevel _ _ (by decide) (by decide)).mono ?_; rintro e w' ⟨rfl, rfl⟩) | (go_at_call 8; refine (names_any _).mono ?_; rintro e w' ⟨rfl, hb, hc⟩; have c : w'.cell? ⟨w.heap.size, 0, none⟩ = some (.string (lstr (-1))) := hc 0 (by decide); clear hc) | (go_at_call 9; refine (awake_any _).mono ?_; rintro e w' ⟨rfl, n2, rfl⟩))
    go_ret
    exact ⟨rfl, below_drewN ((below_drewN (Below.refl _ _) _).trans hb) _⟩
  · have es : ((lstr (0)).toList == (lstr (0)).toList) = true := by simp
    go_enter Tryd.func3, Tryd.ntmps3
    go_wp2_with (first | (go_at_call 6; refine (lparse _ _ (by decide) (by decide)).mono ?_; rintro e w' ⟨rfl, n, rfl⟩) | (go_at_call 7; refine (llevel _ _ (by decide) (by decide)).mono ?_; rintro e w' ⟨rfl, rfl⟩) | (go_at_call 8; refine (names_any _).mono ?_; rintro e w' ⟨rfl, hb, hc⟩; have c : w'.cell? ⟨w.heap.size, 1, none⟩ = some (.string (lstr (0))) := hc 1 (by decide); clear hc) | (go_at_call 9; refine (awake_any _).mono ?_; rintro e w' ⟨rfl, n2, rfl⟩))
    go_ret
    exact ⟨rfl, below_drewN ((below_drewN (Below.refl _ _) _).trans hb) _⟩
  · have es : ((lstr (1)).toList == (lstr (1)).toList) = true := by simp
    go_enter Tryd.func3, Tryd.ntmps3
    go_wp2_with (first | (go_at_call 6; refine (lparse _ _ (by decide) (by decide)).mono ?_; rintro e w' ⟨rfl, n, rfl⟩) | (go_at_call 7; refine (llevel _ _ (by decide) (by decide)).mono ?_; rintro e w' ⟨rfl, rfl⟩) | (go_at_call 8; refine (names_any _).mono ?_; rintro e w' ⟨rfl, hb, hc⟩; have c : w'.cell? ⟨w.heap.size, 2, none⟩ = some (.string (lstr (1))) := hc 2 (by decide); clear hc) | (go_at_call 9; refine (awake_any _).mono ?_; rintro e w' ⟨rfl, n2, rfl⟩))
    go_ret
    exact ⟨rfl, below_drewN ((below_drewN (Below.refl _ _) _).trans hb) _⟩
  · have es : ((lstr (2)).toList == (lstr (2)).toList) = true := by simp
    go_enter Tryd.func3, Tryd.ntmps3
    go_wp2_with (first | (go_at_call 6; refine (lparse _ _ (by decide) (by decide)).mono ?_; rintro e w' ⟨rfl, n, rfl⟩) | (go_at_call 7; refine (llevel _ _ (by decide) (by decide)).mono ?_; rintro e w' ⟨rfl, rfl⟩) | (go_at_call 8; refine (names_any _).mono ?_; rintro e w' ⟨rfl, hb, hc⟩; have c : w'.cell? ⟨w.heap.size, 3, none⟩ = some (.string (lstr (2))) := hc 3 (by decide); clear hc) | (go_at_call 9; refine (awake_any _).mono ?_; rintro e w' ⟨rfl, n2, rfl⟩))
    go_ret
    exact ⟨rfl, below_drewN ((below_drewN (Below.refl _ _) _).trans hb) _⟩
  · have es : ((lstr (3)).toList == (lstr (3)).toList) = true := by simp
    go_enter Tryd.func3, Tryd.ntmps3
    go_wp2_with (first | (go_at_call 6; refine (lparse _ _ (by decide) (by decide)).mono ?_; rintro e w' ⟨rfl, n, rfl⟩) | (go_at_call 7; refine (llevel _ _ (by decide) (by decide)).mono ?_; rintro e w' ⟨rfl, rfl⟩) | (go_at_call 8; refine (names_any _).mono ?_; rintro e w' ⟨rfl, hb, hc⟩; have c : w'.cell? ⟨w.heap.size, 4, none⟩ = some (.string (lstr (3))) := hc 4 (by decide); clear hc) | (go_at_call 9; refine (awake_any _).mono ?_; rintro e w' ⟨rfl, n2, rfl⟩))
    go_ret
    exact ⟨rfl, below_drewN ((below_drewN (Below.refl _ _) _).trans hb) _⟩
  · have es : ((lstr (4)).toList == (lstr (4)).toList) = true := by simp
    go_enter Tryd.func3, Tryd.ntmps3
    go_wp2_with (first | (go_at_call 6; refine (lparse _ _ (by decide) (by decide)).mono ?_; rintro e w' ⟨rfl, n, rfl⟩) | (go_at_call 7; refine (llevel _ _ (by decide) (by decide)).mono ?_; rintro e w' ⟨rfl, rfl⟩) | (go_at_call 8; refine (names_any _).mono ?_; rintro e w' ⟨rfl, hb, hc⟩; have c : w'.cell? ⟨w.heap.size, 5, none⟩ = some (.string (lstr (4))) := hc 5 (by decide); clear hc) | (go_at_call 9; refine (awake_any _).mono ?_; rintro e w' ⟨rfl, n2, rfl⟩))
    go_ret
    exact ⟨rfl, below_drewN ((below_drewN (Below.refl _ _) _).trans hb) _⟩
  · have es : ((lstr (5)).toList == (lstr (5)).toList) = true := by simp
    go_enter Tryd.func3, Tryd.ntmps3
    go_wp2_with (first | (go_at_call 6; refine (lparse _ _ (by decide) (by decide)).mono ?_; rintro e w' ⟨rfl, n, rfl⟩) | (go_at_call 7; refine (llevel _ _ (by decide) (by decide)).mono ?_; rintro e w' ⟨rfl, rfl⟩) | (go_at_call 8; refine (names_any _).mono ?_; rintro e w' ⟨rfl, hb, hc⟩; have c : w'.cell? ⟨w.heap.size, 6, none⟩ = some (.string (lstr (5))) := hc 6 (by decide); clear hc) | (go_at_call 9; refine (awake_any _).mono ?_; rintro e w' ⟨rfl, n2, rfl⟩))
    go_ret
    exact ⟨rfl, below_drewN ((below_drewN (Below.refl _ _) _).trans hb) _⟩
  · have es : ((lstr (6)).toList == (lstr (6)).toList) = true := by simp
    go_enter Tryd.func3, Tryd.ntmps3
    go_wp2_with (first | (go_at_call 6; refine (lparse _ _ (by decide) (by decide)).mono ?_; rintro e w' ⟨rfl, n, rfl⟩) | (go_at_call 7; refine (llevel _ _ (by decide) (by decide)).mono ?_; rintro e w' ⟨rfl, rfl⟩) | (go_at_call 8; refine (names_any _).mono ?_; rintro e w' ⟨rfl, hb, hc⟩; have c : w'.cell? ⟨w.heap.size, 7, none⟩ = some (.string (lstr (6))) := hc 7 (by decide); clear hc) | (go_at_call 9; refine (awake_any _).mono ?_; rintro e w' ⟨rfl, n2, rfl⟩))
    go_ret
    exact ⟨rfl, below_drewN ((below_drewN (Below.refl _ _) _).trans hb) _⟩
  · have es : ((lstr (7)).toList == (lstr (7)).toList) = true := by simp
    go_enter Tryd.func3, Tryd.ntmps3
    go_wp2_with (first | (go_at_call 6; refine (lparse _ _ (by decide) (by decide)).mono ?_; rintro e w' ⟨rfl, n, rfl⟩) | (go_at_call 7; refine (llevel _ _ (by decide) (by decide)).mono ?_; rintro e w' ⟨rfl, rfl⟩) | (go_at_call 8; refine (names_any _).mono ?_; rintro e w' ⟨rfl, hb, hc⟩; have c : w'.cell? ⟨w.heap.size, 8, none⟩ = some (.string (lstr (7))) := hc 8 (by decide); clear hc) | (go_at_call 9; refine (awake_any _).mono ?_; rintro e w' ⟨rfl, n2, rfl⟩))
    go_ret
    exact ⟨rfl, below_drewN ((below_drewN (Below.refl _ _) _).trans hb) _⟩
end Go.Proofs.YtdndjkdcmbifjaaDoor
