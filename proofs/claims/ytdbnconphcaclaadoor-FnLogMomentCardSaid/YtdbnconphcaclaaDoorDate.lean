/-
  Days and dates: the two ways to find the year, month and day of a day agree. Plain arithmetic; no program in it.
-/
import Derived.WalkKit
namespace Go.Proofs.YtdbnconphcaclaaDoor
set_option linter.unusedVariables false

/-- A day of an era of 400 years, by century, year of the century and day of the year (from March on). -/
theorem day_parts (n : Nat) (hn : n < 146097) : ∃ c cd cy yd q : Nat, c = (4 * n + 3) / 146097 ∧ cd = (4 * n + 3) % 146097 / 4 ∧ cy = (4 * cd + 3) / 1461 ∧ yd = (4 * cd + 3) % 1461 / 4 ∧
    c ≤ 3 ∧ cd ≤ 36524 ∧ (cd = 36524 → c = 3) ∧ n = 36524 * c + cd ∧ cy ≤ 99 ∧ yd ≤ 365 ∧ q = cy / 4 ∧ cd = 365 * cy + q + yd ∧ (yd = 365 → cy = 4 * q + 3) := by
  refine ⟨_, _, _, _, (4 * ((4 * n + 3) % 146097 / 4) + 3) / 1461 / 4, rfl, rfl, rfl, rfl, ?_⟩
  obtain ⟨c, hc⟩ : ∃ c, c = (4 * n + 3) / 146097 := ⟨_, rfl⟩
  obtain ⟨cd, hcd⟩ : ∃ cd, cd = (4 * n + 3) % 146097 / 4 := ⟨_, rfl⟩
  rw [← hc, ← hcd]
  have h1 : c ≤ 3 := by omega
  have h2 : n = 36524 * c + cd := by
    have := Nat.div_add_mod (4 * n + 3) 146097
    rw [← hc] at this
    omega
  have h3 : cd ≤ 36524 := by omega
  have h4 : cd = 36524 → c = 3 := by
    intro h
    have := Nat.div_add_mod (4 * n + 3) 146097
    rw [← hc] at this
    omega
  refine ⟨h1, h3, h4, h2, ?_⟩
  clear h1 h2 h4 hc hcd hn
  obtain ⟨cy, hcy⟩ : ∃ cy, cy = (4 * cd + 3) / 1461 := ⟨_, rfl⟩
  obtain ⟨q, hq⟩ : ∃ q, q = cy / 4 := ⟨_, rfl⟩
  obtain ⟨m, hm⟩ : ∃ m, m = (4 * cd + 3) % 1461 := ⟨_, rfl⟩
  rw [← hcy, ← hm, ← hq]
  have k1 := Nat.div_add_mod (4 * cd + 3) 1461
  have k2 := Nat.mod_lt (4 * cd + 3) (show 1461 > 0 by decide)
  rw [← hcy, ← hm] at k1
  rw [← hm] at k2
  clear hcy hm
  have k3 : 4 * q ≤ cy ∧ cy ≤ 4 * q + 3 := by omega
  clear hq
  obtain ⟨k3, k4⟩ := k3
  have k5 : cy = 4 * q ∨ cy = 4 * q + 1 ∨ cy = 4 * q + 2 ∨ cy = 4 * q + 3 := by omega
  refine ⟨by omega, by omega, rfl, ?_, ?_⟩
  · rcases k5 with k5 | k5 | k5 | k5 <;> subst k5 <;> omega
  · rcases k5 with k5 | k5 | k5 | k5 <;> subst k5 <;> omega

theorem year_of (n c cd cy yd q : Nat) (hc : c ≤ 3) (h : n = 36524 * c + cd) (h0 : cd ≤ 36524) (h5 : cd = 36524 → c = 3) (hq : q = cy / 4) (hcd : cd = 365 * cy + q + yd) (hy : cy ≤ 99) (hd : yd ≤ 365) (hl : yd = 365 → cy = 4 * q + 3) :
    (n - n / 1460 + n / 36524 - n / 146096) / 365 = 100 * c + cy ∧ (100 * c + cy) / 4 = 25 * c + q ∧ (100 * c + cy) / 100 = c := by
  refine ⟨?_, by omega, by omega⟩
  have h1 : n / 36524 - n / 146096 = c ∧ n / 146096 ≤ n / 36524 := by
    rcases Nat.lt_or_ge n 146096 with h | h
    · rw [Nat.div_eq_of_lt h]
      omega
    · omega
  obtain ⟨k, hk⟩ : ∃ k, k = n / 1460 := ⟨_, rfl⟩
  rw [← hk]
  have h3 : k * 1460 ≤ n ∧ n < k * 1460 + 1460 := by omega
  have h4 : q * 4 ≤ cy ∧ cy < q * 4 + 4 := by omega
  have h2 : n - k + n / 36524 - n / 146096 = n - k + c := by omega
  rw [h2]
  clear h1 h2 hk hq
  have e : n - k + c = 365 * (100 * c + cy) + (24 * c + q + yd + c - k) ∧ k ≤ 24 * c + q + yd + c ∧ 24 * c + q + yd + c - k < 365 := by
    obtain ⟨h3, h3'⟩ := h3
    obtain ⟨h4, h4'⟩ := h4
    refine ⟨?_, ?_, ?_⟩ <;> omega
  rw [e.1]
  omega
theorem month_of (yd : Nat) (h : yd ≤ 365) : (2141 * yd + 197913) / 65536 = (5 * yd + 2) / 153 + 3 ∧ (2141 * yd + 197913) % 65536 / 2141 = yd - (153 * ((5 * yd + 2) / 153) + 2) / 5 ∧ (306 ≤ yd ↔ 10 ≤ (5 * yd + 2) / 153) ∧ (5 * yd + 2) / 153 ≤ 11 ∧ (153 * ((5 * yd + 2) / 153) + 2) / 5 ≤ yd ∧ yd - (153 * ((5 * yd + 2) / 153) + 2) / 5 ≤ 30 := by
  have key : ∀ y : Fin 366, (2141 * y.val + 197913) / 65536 = (5 * y.val + 2) / 153 + 3 ∧ (2141 * y.val + 197913) % 65536 / 2141 = y.val - (153 * ((5 * y.val + 2) / 153) + 2) / 5 ∧ (306 ≤ y.val ↔ 10 ≤ (5 * y.val + 2) / 153) ∧ (5 * y.val + 2) / 153 ≤ 11 ∧ (153 * ((5 * y.val + 2) / 153) + 2) / 5 ≤ y.val ∧ y.val - (153 * ((5 * y.val + 2) / 153) + 2) / 5 ≤ 30 := by decide +kernel
  exact key ⟨yd, by omega⟩
/-- A product of 32 bits in place of a division. -/
theorem magic (cd cy y4 : Nat) (h : cd = 1461 * cy + y4) (h4 : y4 < 1461) (hc : cy ≤ 100) : 2939745 * cd / 4294967296 = cy ∧ 2939745 * cd % 4294967296 / 2939745 / 4 = y4 / 4 := by
  have h1 : 2939745 * cd = 4294967296 * cy + (149 * cy + 2939745 * y4) := by rw [h]; omega
  have h2 : 149 * cy + 2939745 * y4 < 4294967296 := by omega
  constructor
  · omega
  · have : 2939745 * cd % 4294967296 = 149 * cy + 2939745 * y4 := by omega
    rw [this]
    have : (149 * cy + 2939745 * y4) / 2939745 = y4 := by omega
    rw [this]
theorem or_three (n : Nat) : n ||| 3 = 4 * (n / 4) + 3 := by
  apply Nat.eq_of_testBit_eq
  intro i
  rw [Nat.testBit_or, show 4 * (n / 4) + 3 = 2 ^ 2 * (n / 4) + 3 by omega, Nat.testBit_two_pow_mul_add _ (by decide)]
  have h3 : (3 : Nat).testBit i = decide (i < 2) := by
    rw [show 3 = 2 ^ 2 - 1 by decide, Nat.testBit_two_pow_sub_one]
  rw [h3]
  by_cases h : i < 2
  · simp [h]
  · rw [if_neg h, show n / 4 = n / 2 ^ 2 by omega, Nat.testBit_div_two_pow]
    simp [h, show i - 2 + 2 = i by omega]
end Go.Proofs.YtdbnconphcaclaaDoor
