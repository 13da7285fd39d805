/-
  FnLogStringPlain: printable texts without marks are written as they are. Conditions: the tables of unicode/utf8 lie as their initialisers lay them.
-/
import Derived.Test.YtdbnconphcaclaaDoorLText
import Derived.Test.YtdbnconphcaclaaDoorAwake
namespace Go.Proofs.YtdbnconphcaclaaDoor
open Go.RowKit
set_option linter.unusedVariables false

theorem quoted_plain (s : ByteArray) (h : esc s.data.toList = s.data.toList) : quoted s.data.toList = { data := #[34] } ++ s ++ { data := #[34] } := by
  unfold quoted
  rw [h]
  apply ByteArray.ext
  simp only [ByteArray.data_append]
  simp

set_option maxRecDepth 100000 in
theorem plain_law (s : ByteArray) (hs : s.size ≤ 9223372036854775807) (W : World) (hT : Lib.Utf8Tabs 0 1 W) :
    Calls Tryd.prog 5 #[.string s] W fun e w' => e = .returned (.bool true) ∧ Below W.heap.size W w' := by
  have HT := Lib.hid hT
  have h2 := tabs_size hT
  clear hT
  by_cases h00 : 2147483647 < s.size
  · go_enter Tryd.func5, Tryd.ntmps5
    go_wp2
    go_ret
    exact ⟨rfl, Below.refl _ _⟩
  by_cases h0 : 2000 < s.size
  · go_enter Tryd.func5, Tryd.ntmps5
    go_wp2
    go_ret
    exact ⟨rfl, Below.refl _ _⟩
  go_enter Tryd.func5, Tryd.ntmps5
  go_wp2
  go_loop [3] (fun i => ∃ k : Nat, k ≤ s.size ∧ i = .int .i64 k ∧ Plain s k) (fun i => s.size - (intOf i).toNat)
  case atStart => exact ⟨0, Nat.zero_le _, rfl, by intro x hx; simp at hx⟩
  case round =>
    obtain ⟨k, hk, rfl, hp⟩ := hrel
    have HP := Lib.hid hp
    clear hp
    by_cases hlt : k < s.size
    · by_cases c1 : (s[k].toNat : Int) < 32
      · go_wp2
        go_ret
        exact ⟨rfl, Below.refl _ _⟩
      by_cases c2 : 127 ≤ (s[k].toNat : Int)
      · go_wp2
        go_ret
        exact ⟨rfl, Below.refl _ _⟩
      by_cases c3 : (s[k].toNat : Int) = 34
      · go_wp2
        go_ret
        exact ⟨rfl, Below.refl _ _⟩
      by_cases c4 : (s[k].toNat : Int) = 92
      · go_wp2
        go_ret
        exact ⟨rfl, Below.refl _ _⟩
      have hn : nEsc s[k] = true := by unfold nEsc; simp only [decide_eq_true_eq]; omega
      have b3 : ((s[k].toNat : Int) == 34) = false := by simp; omega
      have b4 : ((s[k].toNat : Int) == 92) = false := by simp; omega
      go_wp2
      go_round
      case rel => exact ⟨k + 1, by omega, by go_num, plain_next HP.out hlt hn⟩
      case measure => simp [intOf]; omega
    · have hkk : k = s.size := by omega
      have hall : esc s.data.toList = s.data.toList := esc_all _ (by
        intro x hx
        refine HP.out x ?_
        rw [List.take_of_length_le (by rw [hkk]; exact Nat.le_of_eq (size_list s).symm)]
        exact hx)
      have es : ((quoted s.data.toList).toList == (({ data := #[34] } : ByteArray) ++ s ++ { data := #[34] }).toList) = true := by
        rw [quoted_plain s hall]
        simp
      clear hall
      go_wp2_with (first
        | (go_at_call 14; refine (lstring s _ (by omega) HT.out).mono ?_; rintro e w' ⟨rfl, hb⟩)
        | (go_at_call 12; refine (awake_any _).mono ?_; rintro e w' ⟨rfl, n2, rfl⟩))
      go_ret
      exact ⟨rfl, below_drewN hb _⟩
end Go.Proofs.YtdbnconphcaclaaDoor
