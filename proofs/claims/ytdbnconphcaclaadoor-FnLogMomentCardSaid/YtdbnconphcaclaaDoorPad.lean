/-
  Numbers with zeros ahead: spec.padded, and texts without the zeros at their end. Conditions: as each theorem says.
-/
import Derived.Test.YtdbnconphcaclaaDoorFrac
namespace Go.Proofs.YtdbnconphcaclaaDoor
open Go.RowKit
set_option linter.unusedVariables false

/-- The decimal digits, with zeros ahead up to a width. -/
def padT (n p : Nat) : List UInt8 := List.replicate (p - (decs n).length) 48 ++ decs n
/-- The last p digits. -/
def padz (v : Nat) : Nat → List UInt8
  | 0 => []
  | p + 1 => dig (v / 10 ^ p) :: padz v p
theorem padz_length (v p : Nat) : (padz v p).length = p := by
  induction p with
  | zero => rfl
  | succ p ih => simp [padz, ih]
theorem dig_mod (n : Nat) : dig (n % 10) = dig n := by unfold dig; rw [Nat.mod_mod]
theorem dig_congr {m n : Nat} (h : m % 10 = n % 10) : dig m = dig n := by unfold dig; rw [h]
theorem padz_snoc (v p : Nat) : padz v (p + 1) = padz (v / 10) p ++ [dig v] := by
  induction p with
  | zero => simp [padz]
  | succ p ih =>
    rw [padz, ih]
    simp only [padz, List.cons_append]
    rw [Nat.div_div_eq_div_mul, Nat.mul_comm 10, ← Nat.pow_succ]
theorem padz_zero (p : Nat) : padz 0 p = List.replicate p 48 := by
  induction p with
  | zero => rfl
  | succ p ih => rw [padz, ih, Nat.zero_div]; rfl
theorem decs_pos (n : Nat) : 1 ≤ (decs n).length := by
  rcases Nat.lt_or_ge n 10 with h | h
  · rw [decs_small h]; simp
  · rw [decs_more h]; simp
theorem padT_eq : ∀ (p n : Nat), n < 10 ^ (p + 1) → padT n (p + 1) = padz n (p + 1) := by
  intro p
  induction p with
  | zero => intro n hn; unfold padT; rw [decs_small (by omega)]; simp [padz]
  | succ p ih =>
    intro n hn
    rw [padz_snoc]
    rcases Nat.lt_or_ge n 10 with h | h
    · unfold padT
      rw [decs_small h, Nat.div_eq_of_lt h, padz_zero]
      simp
    · have := ih (n / 10) (by rw [Nat.pow_succ] at hn; omega)
      rw [← this]
      unfold padT
      rw [decs_more h, List.length_append, List.append_assoc]
      congr 2
      simp
/-- A text without the zeros at its end. -/
def stripz : List UInt8 → List UInt8
  | [] => []
  | a :: l => if stripz l ≠ [] ∨ a ≠ 48 then a :: stripz l else []
theorem stripz_snoc0 (l : List UInt8) : stripz (l ++ [48]) = stripz l := by
  induction l with
  | nil => simp [stripz]
  | cons a l ih => simp only [List.cons_append, stripz, ih]
theorem stripz_snoc (l : List UInt8) (a : UInt8) (h : a ≠ 48) : stripz (l ++ [a]) = l ++ [a] := by
  induction l with
  | nil => simp [stripz, h]
  | cons b l ih => simp [stripz, ih]
theorem stripz_fracs (v p : Nat) : stripz (padz v p) = fracs v p := by
  induction p with
  | zero => rfl
  | succ p ih =>
    simp only [padz, stripz, fracs, ih]
    have e : (dig (v / 10 ^ p) ≠ 48) ↔ (v / 10 ^ p % 10 ≠ 0) := by
      constructor
      · intro h h2
        apply h
        unfold dig
        rw [h2]
        rfl
      · intro h h2
        have := congrArg UInt8.toNat h2
        rw [dig_toNat] at this
        have e2 : (48 : UInt8).toNat = 48 := rfl
        omega
    simp only [e]
theorem fracs_nil {v p : Nat} (h : v % 10 ^ p = 0) : fracs v p = [] := by
  induction p with
  | zero => rfl
  | succ p ih =>
    have h1 : v % 10 ^ p = 0 := by
      have : 10 ^ p ∣ v := Nat.dvd_trans (by rw [Nat.pow_succ]; exact Nat.dvd_mul_right _ _) (Nat.dvd_of_mod_eq_zero h)
      exact Nat.mod_eq_zero_of_dvd this
    have h2 : v / 10 ^ p % 10 = 0 := by
      rw [← Nat.mod_mul_right_div_self, ← Nat.pow_succ, h, Nat.zero_div]
    simp [fracs, ih h1, h2]
theorem padz_mod (v p : Nat) : padz (v % 10 ^ p) p = padz v p := by
  suffices h : ∀ q, q ≤ p → padz (v % 10 ^ p) q = padz v q from h p (Nat.le_refl _)
  intro q hq
  induction q with
  | zero => rfl
  | succ q ih =>
    simp only [padz]
    rw [ih (by omega)]
    congr 1
    apply dig_congr
    rw [← Nat.mod_mul_right_div_self, ← Nat.mod_mul_right_div_self (v) , ← Nat.pow_succ, Nat.mod_mod_of_dvd _ (Nat.pow_dvd_pow 10 hq)]
theorem fracs_mod (v p : Nat) : fracs (v % 10 ^ p) p = fracs v p := by rw [← stripz_fracs, padz_mod, stripz_fracs]
theorem fracs_ne {v p : Nat} (h : v % 10 ^ p ≠ 0) : fracs v p ≠ [] := by
  induction p with
  | zero => rw [Nat.pow_zero, Nat.mod_one] at h; exact absurd rfl h
  | succ p ih =>
    simp only [fracs]
    by_cases h1 : v % 10 ^ p = 0
    · have h2 : v / 10 ^ p % 10 ≠ 0 := by
        intro h2
        apply h
        rw [← Nat.mod_mul_right_div_self, ← Nat.pow_succ] at h2
        have h3 : v % 10 ^ (p + 1) % 10 ^ p = 0 := by rw [Nat.mod_mod_of_dvd _ (Nat.pow_dvd_pow 10 (by omega))]; exact h1
        have := Nat.div_add_mod (v % 10 ^ (p + 1)) (10 ^ p)
        rw [h2, h3] at this
        omega
      rw [if_pos (.inr h2)]; simp
    · rw [if_pos (.inl (ih h1))]; simp
end Go.Proofs.YtdbnconphcaclaaDoor
