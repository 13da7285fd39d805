/-
  package time's fmtFrac: the digits behind the point, without the last zeros. Conditions: as the theorem says.
-/
import Derived.Test.YtdbnconphcaclaaDoorDec
namespace Go.Proofs.YtdbnconphcaclaaDoor
open Go.RowKit
set_option linter.unusedVariables false

/-- The last k digits of v, without the zeros at their end. -/
def fracs (v : Nat) : Nat → List UInt8
  | 0 => []
  | k + 1 => if fracs v k ≠ [] ∨ v / 10 ^ k % 10 ≠ 0 then dig (v / 10 ^ k) :: fracs v k else []
theorem fracs_length (v k : Nat) : (fracs v k).length ≤ k := by
  induction k with
  | zero => simp [fracs]
  | succ k ih =>
    simp only [fracs]
    split
    · simp only [List.length_cons]; omega
    · simp
def fracT (v k : Nat) : List UInt8 := if fracs v k = [] then [] else 46 :: fracs v k

set_option maxRecDepth 100000 in
theorem fmtfrac (b n c : Nat) (l : List UInt8) (v p : Nat) (w : World) (hb : BufT w b n l) (hv : v ≤ 18446744073709551615) (hn : n ≤ 32) (hc : n ≤ c) (hc1 : c ≤ 32) (hp : p + 1 ≤ n) :
    Calls Tryd.prog 67 #[.slice (some ⟨b, 0, none⟩) n c, .int .u64 v, .int .i64 p] w fun e w' => ∃ k : Nat, e = .returned (.tuple #[.int .i64 k, .int .u64 ((v / 10 ^ p : Nat) : Int)]) ∧ k + (fracT v p).length = n ∧ BufT w' b k (fracT v p ++ l) ∧ w.grownBy w' (some b) := by
  have H := Lib.hid hb
  clear hb
  go_enter Tryd.func67, Tryd.ntmps67
  go_wp2
  go_loopw [1, 8, 9, 10] (fun x y pr i wr => ∃ j k : Nat, j ≤ p ∧ i = .int .i64 j ∧ x = .int .u64 ((v / 10 ^ j : Nat) : Int) ∧ y = .int .i64 k ∧ pr = .bool (decide (fracs v j ≠ [])) ∧ BufT wr b k (fracs v j ++ l) ∧ k + (fracs v j).length = n ∧ w.grownBy wr (some b)) (fun _ _ _ i _ => p - (intOf i).toNat)
  case atStart => exact ⟨0, n, Nat.zero_le _, rfl, by simp, rfl, by simp [fracs], H.out, rfl, only_of_below (Below.refl _ _) _⟩
  case round =>
    obtain ⟨j, k, hj, rfl, rfl, rfl, rfl, hbuf, hkl, hg⟩ := hrel
    have hfl := fracs_length v j
    by_cases hlt : j < p
    · obtain ⟨m, hm⟩ : ∃ m, m = v / 10 ^ j := ⟨_, rfl⟩
      have hmv : m ≤ v := by rw [hm]; exact Nat.div_le_self _ _
      have hnx : m / 10 = v / 10 ^ (j + 1) := by rw [hm, Nat.div_div_eq_div_mul, ← Nat.pow_succ]
      rw [← hm]
      by_cases hpr : fracs v j = []
      · have hd : decide (fracs v j ≠ []) = false := by simp [hpr]
        rw [hd]
        by_cases hz : m % 10 = 0
        · have e1 : ((m : Int) % 10 != 0) = false := by simp; omega
          have hf : fracs v (j + 1) = [] := by simp only [fracs]; rw [if_neg (by rw [← hm]; simp [hpr, hz])]
          have HZ := Lib.hid (And.intro hf (And.intro hbuf (And.intro hkl (And.intro hg (And.intro hnx hpr)))))
          clear hf hbuf hkl hg hnx hpr hd hm hz
          go_wp2
          go_roundw
          case rel => exact ⟨j + 1, k, by omega, by go_num, by rw [← HZ.out.2.2.2.2.1]; go_num, rfl, by rw [HZ.out.1]; simp, by rw [HZ.out.1]; have := HZ.out.2.1; rwa [HZ.out.2.2.2.2.2] at this, by rw [HZ.out.1]; have := HZ.out.2.2.1; rwa [HZ.out.2.2.2.2.2] at this, HZ.out.2.2.2.1⟩
          case measure => simp [intOf]; omega
        · have e1 : ((m : Int) % 10 != 0) = true := by simp; omega
          have hk1 : 1 ≤ k := by omega
          have hk2 : k ≤ n := by omega
          have hf : fracs v (j + 1) = dig m :: fracs v j := by simp only [fracs]; rw [if_pos (by rw [← hm]; exact .inr hz), ← hm]
          obtain ⟨u, hu⟩ := hbuf.cell (k - 1) (by omega)
          have hfz := hbuf.frozen (k - 1)
          have hput : BufT (wr.setCell ⟨b, k - 1, none⟩ (.int .u8 ((m : Int) % 10 + 48))) b (k - 1) (dig m :: (fracs v j ++ l)) := by
            have := hbuf.put (dig m) (k - 1) (by omega) (by omega)
            rwa [show ((dig m).toNat : Int) = (m : Int) % 10 + 48 by rw [dig_toNat]; omega] at this
          have HZ := Lib.hid (And.intro hf (And.intro hput (And.intro hkl (And.intro hg hnx))))
          clear hf hput hkl hg hnx hpr hd hm hbuf hfl
          go_wp2
          go_roundw
          case rel => exact ⟨j + 1, k - 1, by omega, by go_num, by rw [← HZ.out.2.2.2.2]; go_num, by go_num, by rw [HZ.out.1]; simp, by rw [HZ.out.1]; exact HZ.out.2.1, by rw [HZ.out.1]; have := HZ.out.2.2.1; simp only [List.length_cons]; omega, only_setCell HZ.out.2.2.2.1 (.inl rfl) _⟩
          case measure => simp [intOf]; omega
      · have hd : decide (fracs v j ≠ []) = true := by simp [hpr]
        rw [hd]
        have hk1 : 1 ≤ k := by omega
        have hk2 : k ≤ n := by omega
        have hf : fracs v (j + 1) = dig m :: fracs v j := by simp only [fracs]; rw [if_pos (by rw [← hm]; exact .inl hpr), ← hm]
        obtain ⟨u, hu⟩ := hbuf.cell (k - 1) (by omega)
        have hfz := hbuf.frozen (k - 1)
        have hput : BufT (wr.setCell ⟨b, k - 1, none⟩ (.int .u8 ((m : Int) % 10 + 48))) b (k - 1) (dig m :: (fracs v j ++ l)) := by
          have := hbuf.put (dig m) (k - 1) (by omega) (by omega)
          rwa [show ((dig m).toNat : Int) = (m : Int) % 10 + 48 by rw [dig_toNat]; omega] at this
        have HZ := Lib.hid (And.intro hf (And.intro hput (And.intro hkl (And.intro hg hnx))))
        clear hf hput hkl hg hnx hpr hd hm hbuf hfl
        go_wp2
        go_roundw
        case rel => exact ⟨j + 1, k - 1, by omega, by go_num, by rw [← HZ.out.2.2.2.2]; go_num, by go_num, by rw [HZ.out.1]; simp, by rw [HZ.out.1]; exact HZ.out.2.1, by rw [HZ.out.1]; have := HZ.out.2.2.1; simp only [List.length_cons]; omega, only_setCell HZ.out.2.2.2.1 (.inl rfl) _⟩
        case measure => simp [intOf]; omega
    · have hjp : j = p := by omega
      subst hjp
      obtain ⟨m, hm⟩ : ∃ m, m = v / 10 ^ j := ⟨_, rfl⟩
      rw [← hm]
      by_cases hpr : fracs v j = []
      · have hd : decide (fracs v j ≠ []) = false := by simp [hpr]
        rw [hd]
        have hft : fracT v j = [] := by unfold fracT; rw [if_pos hpr]
        have HZ := Lib.hid (And.intro hft (And.intro hbuf (And.intro hkl (And.intro hg (And.intro hm hpr)))))
        clear hft hbuf hkl hg hm hpr hd
        go_wp2
        go_ret2
        exact ⟨k, by rw [← HZ.out.2.2.2.2.1]; rfl, by rw [HZ.out.1]; have := HZ.out.2.2.1; rwa [HZ.out.2.2.2.2.2] at this, by rw [HZ.out.1]; have := HZ.out.2.1; rwa [HZ.out.2.2.2.2.2] at this, HZ.out.2.2.2.1⟩
      · have hd : decide (fracs v j ≠ []) = true := by simp [hpr]
        rw [hd]
        have hft : fracT v j = 46 :: fracs v j := by unfold fracT; rw [if_neg hpr]
        have hk1 : 1 ≤ k := by omega
        have hk2 : k ≤ n := by omega
        obtain ⟨u, hu⟩ := hbuf.cell (k - 1) (by omega)
        have hfz := hbuf.frozen (k - 1)
        have hput := hbuf.put 46 (k - 1) (by omega) (by omega)
        have HZ := Lib.hid (And.intro hft (And.intro hput (And.intro hkl (And.intro hg hm))))
        clear hft hbuf hkl hg hm hpr hd hput hfl
        go_wp2
        go_ret2
        exact ⟨k - 1, by rw [← HZ.out.2.2.2.2, show ((k - 1 : Nat) : Int) = (k : Int) - 1 by omega]; rfl, by rw [HZ.out.1]; have := HZ.out.2.2.1; simp only [List.length_cons]; omega, by rw [HZ.out.1]; exact HZ.out.2.1, only_setCell HZ.out.2.2.2.1 (.inl rfl) _⟩
end Go.Proofs.YtdbnconphcaclaaDoor
