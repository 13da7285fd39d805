/-
  package time: the date of a day. Conditions: as each theorem says.
-/
import Derived.Test.YtdbnconphcaclaaDoorPad
import Derived.Test.YtdbnconphcaclaaDoorDate
namespace Go.Proofs.YtdbnconphcaclaaDoor
open Go.RowKit
set_option linter.unusedVariables false

def cOf (n : Nat) : Nat := (4 * n + 3) / 146097
def cdOf (n : Nat) : Nat := (4 * n + 3) % 146097 / 4
def cyOf (n : Nat) : Nat := (4 * cdOf n + 3) / 1461
def ydOf (n : Nat) : Nat := (4 * cdOf n + 3) % 1461 / 4
def mpOf (n : Nat) : Nat := (5 * ydOf n + 2) / 153
/-- Year, month and day of the day n of the era E of 400 years (from March on). -/
def yearN (E n : Nat) : Nat := 400 * E + (100 * cOf n + cyOf n) + (if 10 ≤ mpOf n then 1 else 0)
def monthN (n : Nat) : Nat := if 10 ≤ mpOf n then mpOf n - 9 else mpOf n + 3
def dayN (n : Nat) : Nat := ydOf n - (153 * mpOf n + 2) / 5 + 1

theorem ret_three {a b c a' b' c' : Int} {k1 k2 k3 : IntKind} (h1 : a = a') (h2 : b = b') (h3 : c = c') : Ending.returned (.tuple #[.int k1 a, .int k2 b, .int k3 c]) = Ending.returned (.tuple #[.int k1 a', .int k2 b', .int k3 c']) := by rw [h1, h2, h3]
theorem or_u32 (r : Nat) (hr : r < 4294967296) : bits .or .u32 (r : Int) 3 = ((4 * (r / 4) + 3 : Nat) : Int) := by
  show IntKind.u32.wrap ((BitVec.ofInt 32 (r : Int) ||| BitVec.ofInt 32 3).toNat : Int) = _
  have e1 : BitVec.ofInt 32 (r : Int) = BitVec.ofNat 32 r := BitVec.ofInt_natCast _ _
  have e2 : BitVec.ofInt 32 3 = BitVec.ofNat 32 3 := rfl
  rw [e1, e2, BitVec.toNat_or, BitVec.toNat_ofNat, BitVec.toNat_ofNat, Nat.mod_eq_of_lt (by omega), Nat.mod_eq_of_lt (by omega), or_three]
  rw [IntKind.wrap_u32]
  omega
/-- The 32-bit product in place of a division. -/
theorem cy_of (n B : Nat) (hn : n < 146097) (hB : B = 4 * ((4 * n + 3) % 146097 / 4) + 3) : 2939745 * B / 4294967296 = cyOf n ∧ 2939745 * B % 4294967296 / 2939745 / 4 = ydOf n ∧ cyOf n ≤ 99 ∧ ydOf n ≤ 365 := by
  obtain ⟨c, cd, cy, yd, q, rfl, hcd, hcy, hyd, _, h1, _, _, h2, h3, _⟩ := day_parts n hn
  have hm := magic B cy ((4 * cd + 3) % 1461) (by rw [hB, hcy, ← hcd]; have := Nat.div_add_mod (4 * cd + 3) 1461; omega) (Nat.mod_lt _ (by decide)) (by omega)
  unfold cyOf ydOf cdOf
  rw [← hcd, ← hcy, ← hyd]
  exact ⟨hm.1, by rw [hm.2, ← hyd], h2, h3⟩

set_option maxRecDepth 100000 in
theorem date_split (D C1 C2 C3 : Int) (E n : Nat) (hD : D = 146097 * (730692556 + (E : Int)) + (n : Int)) (h1 : C1 = 4 * (730692556 + (E : Int)) + (cOf n : Int)) (h2 : C2 = (cyOf n : Int)) (h3 : C3 = (ydOf n : Int)) (hE : E ≤ 10) (hn : n < 146097) (w : World) :
    Calls Tryd.prog 114 #[.int .u64 D] w fun e w' => e = .returned (.tuple #[.int .u64 C1, .int .i64 C2, .int .i64 C3]) ∧ w' = w := by
  obtain ⟨R, hR⟩ : ∃ R : Nat, (4 * D + 3) % 146097 = (R : Int) := ⟨_, (Int.toNat_of_nonneg (Int.emod_nonneg _ (by decide))).symm⟩
  obtain ⟨B, hB⟩ : ∃ B : Int, B = ((4 * (R / 4) + 3 : Nat) : Int) := ⟨_, rfl⟩
  have hRn : R = (4 * n + 3) % 146097 := by omega
  have hor := or_u32 R (by omega)
  rw [← hB] at hor
  have hc := cy_of n (4 * (R / 4) + 3) hn (by rw [hRn])
  have d0 : 0 ≤ D := by omega
  have d1 : D ≤ 106753000000000 := by omega
  have b0 : 0 ≤ B := by omega
  have b1 : B ≤ 146099 := by omega
  have r1 : R ≤ 146096 := by omega
  have H := Lib.hid (And.intro hD (And.intro hE (And.intro hn (And.intro hB (And.intro h1 (And.intro h2 (And.intro h3 hc)))))))
  clear hD hE hn hB hRn hc h1 h2 h3
  go_enter Tryd.func114, Tryd.ntmps114
  go_wp2
  go_ret3
  obtain ⟨hD, hE, hn, hB, h1, h2, h3, hc1, hc2, hc3, hc4⟩ := H.out
  refine ⟨ret_three ?_ ?_ ?_, rfl⟩
  · rw [h1]; unfold cOf; omega
  · rw [h2, hB, ← hc1]; omega
  · rw [h3, hB, ← hc2]
    generalize 4 * (R / 4) + 3 = Y
    simp only [Int.natCast_ediv, Int.natCast_emod, Int.natCast_mul]
    rfl
theorem month_facts (n : Nat) (hn : n < 146097) : (2141 * ydOf n + 197913) / 65536 = mpOf n + 3 ∧ (2141 * ydOf n + 197913) % 65536 / 2141 + 1 = dayN n ∧ (306 ≤ ydOf n ↔ 10 ≤ mpOf n) ∧ mpOf n ≤ 11 ∧ ydOf n ≤ 365 ∧ cyOf n ≤ 99 ∧ dayN n ≤ 31 ∧ cOf n ≤ 3 := by
  obtain ⟨_, _, h3, h4⟩ := cy_of n _ hn rfl
  obtain ⟨m1, m2, m3, m4, m5, m6⟩ := month_of (ydOf n) h4
  unfold dayN mpOf
  refine ⟨m1, by rw [m2], m3, m4, h4, h3, by omega, by unfold cOf; omega⟩
theorem and_low (d : Nat) (hd : d < 4294967296) : bits .and .u32 (d : Int) 65535 = ((d % 65536 : Nat) : Int) := by
  show IntKind.u32.wrap ((BitVec.ofInt 32 (d : Int) &&& BitVec.ofInt 32 65535).toNat : Int) = _
  have e1 : BitVec.ofInt 32 (d : Int) = BitVec.ofNat 32 d := BitVec.ofInt_natCast _ _
  have e2 : BitVec.ofInt 32 65535 = BitVec.ofNat 32 65535 := rfl
  rw [e1, e2, BitVec.toNat_and, BitVec.toNat_ofNat, BitVec.toNat_ofNat, Nat.mod_eq_of_lt (by omega), Nat.mod_eq_of_lt (by omega), show 65535 = 2 ^ 16 - 1 from rfl, Nat.and_two_pow_sub_one_eq_mod, IntKind.wrap_u32]
  omega

set_option maxRecDepth 100000 in
theorem date_at (D Y M A : Int) (E n : Nat) (hD : D = 146097 * (730692556 + (E : Int)) + (n : Int)) (hY : Y = (yearN E n : Int)) (hM : M = (monthN n : Int)) (hA : A = (dayN n : Int)) (hE : E ≤ 10) (hn : n < 146097) (w : World) :
    Calls Tryd.prog 92 #[.int .u64 D] w fun e w' => e = .returned (.tuple #[.int .i64 Y, .int .i64 M, .int .i64 A]) ∧ w' = w := by
  obtain ⟨C, hC⟩ : ∃ C : Int, C = 4 * (730692556 + (E : Int)) + (cOf n : Int) := ⟨_, rfl⟩
  obtain ⟨F, hF⟩ : ∃ F : Int, F = (cyOf n : Int) := ⟨_, rfl⟩
  obtain ⟨G, hG⟩ : ∃ G : Int, G = (ydOf n : Int) := ⟨_, rfl⟩
  obtain ⟨m1, m2, m3, m4, m5, m6, m7, m8⟩ := month_facts n hn
  have hand := and_low (2141 * ydOf n + 197913) (by omega)
  rw [show ((2141 * ydOf n + 197913 : Nat) : Int) = 2141 * G + 197913 by omega] at hand
  obtain ⟨L, hL⟩ : ∃ L : Int, L = (((2141 * ydOf n + 197913) % 65536 : Nat) : Int) := ⟨_, rfl⟩
  rw [← hL] at hand
  have c0 : 2922770224 ≤ C := by omega
  have c1 : C ≤ 2922770267 := by omega
  have f0 : 0 ≤ F := by omega
  have f1 : F ≤ 99 := by omega
  have g0 : 0 ≤ G := by omega
  have g1 : G ≤ 365 := by omega
  have l0 : 0 ≤ L := by omega
  have l1 : L ≤ 65535 := by omega
  have HC := Lib.hid (And.intro hC (And.intro hF (And.intro hG hL)))
  have H := Lib.hid (And.intro hD (And.intro hY (And.intro hM (And.intro hA (And.intro hE hn)))))
  have HM := Lib.hid (And.intro m1 (And.intro m2 (And.intro m3 (And.intro m4 m8))))
  clear hC hF hG hL hD hY hM hA hE hn m1 m2 m3 m4 m5 m6 m7 m8
  by_cases hj : 306 ≤ G
  · go_enter Tryd.func92, Tryd.ntmps92
    go_wp2_with (go_at_call 114; refine (date_split D C F G E n H.out.1 HC.out.1 HC.out.2.1 HC.out.2.2.1 H.out.2.2.2.2.1 H.out.2.2.2.2.2 _).mono ?_; rintro e w1 ⟨rfl, rfl⟩)
    go_wp2
    go_ret3
    obtain ⟨hD, hY, hM, hA, hE, hn⟩ := H.out
    obtain ⟨hC, hF, hG, hL⟩ := HC.out
    obtain ⟨m1, m2, m3, m4, m8⟩ := HM.out
    have hmp : 10 ≤ mpOf n := by omega
    refine ⟨ret_three ?_ ?_ ?_, rfl⟩
    · rw [hY]
      unfold yearN
      rw [if_pos hmp]
      omega
    · rw [hM]
      unfold monthN
      rw [if_pos hmp]
      omega
    · rw [hA]
      omega
  · go_enter Tryd.func92, Tryd.ntmps92
    go_wp2_with (go_at_call 114; refine (date_split D C F G E n H.out.1 HC.out.1 HC.out.2.1 HC.out.2.2.1 H.out.2.2.2.2.1 H.out.2.2.2.2.2 _).mono ?_; rintro e w1 ⟨rfl, rfl⟩)
    go_wp2
    go_ret3
    obtain ⟨hD, hY, hM, hA, hE, hn⟩ := H.out
    obtain ⟨hC, hF, hG, hL⟩ := HC.out
    obtain ⟨m1, m2, m3, m4, m8⟩ := HM.out
    have hmp : ¬ 10 ≤ mpOf n := by omega
    refine ⟨ret_three ?_ ?_ ?_, rfl⟩
    · rw [hY]
      unfold yearN
      rw [if_neg hmp]
      omega
    · rw [hM]
      unfold monthN
      rw [if_neg hmp]
      omega
    · rw [hA]
      omega
end Go.Proofs.YtdbnconphcaclaaDoor
