/-
  spec.Span: the text of a duration is spanT (printed by wip/gen_span.py). Conditions: as the theorems say.
-/
import Derived.Test.YtdbnconphcaclaaDoorSSpan
namespace Go.Proofs.YtdbnconphcaclaaDoor
open Go.RowKit
set_option linter.unusedVariables false

theorem frac_mod60 (u : Nat) : fracT (u % 60000000000) 9 = fracT u 9 := by
  unfold fracT
  rw [← fracs_mod (u % 60000000000) 9, ← fracs_mod u 9, show u % 60000000000 % 10 ^ 9 = u % 10 ^ 9 by omega]
theorem part_t (T : List UInt8) (n p : Nat) (N U y : Int) (hT : T = decs (n / 10 ^ p) ++ fracT n p) (hN : N = n) (hU : U = (10 ^ p : Nat)) (hy : y = p) (hn : n ≤ 18446744073709551615) (hp : p + 1 ≤ 18) (w : World) :
    Calls Tryd.prog 28 #[.int .u64 N, .int .u64 U, .int .i64 y] w fun e w' => e = .returned (.string ⟨T.toArray⟩) ∧ Below w.heap.size w w' := by
  subst hT
  exact part_at n p N U y hN hU hy hn hp w
theorem unsigned_t (T : List UInt8) (n : Nat) (x : Int) (hT : T = decs n) (hx : x = n) (hn : n ≤ 18446744073709551615) (w : World) :
    Calls Tryd.prog 29 #[.int .u64 x] w fun e w' => e = .returned (.string ⟨T.toArray⟩) ∧ Below w.heap.size w w' := by
  subst hT
  exact unsigned_at n x hx hn w
theorem named (l : List UInt8) (h : l.length ≤ 30) : ∃ T, T = l ∧ T.length ≤ 30 := ⟨l, rfl, h⟩
theorem frac_zero (u : Nat) : fracT u 0 = [] := by simp [fracT, fracs]


set_option maxRecDepth 100000 in
set_option maxHeartbeats 1000000 in
theorem span_ns_pos (u : Nat) (U : Int) (hU : U = (u : Int)) (w : World) (h0 : 1 ≤ u) (h1 : u ≤ 999) :
    Calls Tryd.prog 11 #[.int .i64 (U)] w fun e w' => e = .returned (.string ⟨(decs (u / 10 ^ 0) ++ (fracT u 0 ++ [110, 115])).toArray⟩) ∧ Below w.heap.size w w' := by
  have e0 : (U == 0) = false := by simp; omega
  have u0 : 1 ≤ U := by omega
  have u1 : U ≤ 9223372036854775808 := by omega
  have t1000 : U ≤ 999 := by omega
  have t1000000 : U ≤ 999999 := by omega
  have t1000000000 : U ≤ 999999999 := by omega
  obtain ⟨P1, hT1, hp1⟩ := named (decs (u)) (Nat.le_trans (decs_length 19 _ (by omega)) (by decide))
  have HT1 := Lib.hid hT1
  clear hT1
  have HB := Lib.hid (And.intro hU (show u ≤ 18446744073709551615 by omega))
  clear hU h0 h1
  go_enter Tryd.func11, Tryd.ntmps11
  go_wp2_with (first
    | (go_at_call 29; refine (unsigned_t P1 (u) _ HT1.out HB.out.1 HB.out.2 _).mono ?_; rintro e w1 ⟨rfl, hw1⟩; have Hw1 := Lib.hid hw1; clear hw1))
  go_ret
  refine ⟨ret_str ?_, Hw1.out⟩
  rw [HT1.out]
  rw [frac_zero]
  apply ByteArray.ext
  simp

set_option maxRecDepth 100000 in
set_option maxHeartbeats 1000000 in
theorem span_ns_neg (u : Nat) (U : Int) (hU : U = (u : Int)) (w : World) (h0 : 1 ≤ u) (h1 : u ≤ 999) :
    Calls Tryd.prog 11 #[.int .i64 (-U)] w fun e w' => e = .returned (.string ⟨(45 :: (decs (u / 10 ^ 0) ++ (fracT u 0 ++ [110, 115]))).toArray⟩) ∧ Below w.heap.size w w' := by
  have hw : IntKind.u64.wrap (-IntKind.u64.wrap (-U)) = U := by rw [IntKind.wrap_u64, IntKind.wrap_u64]; omega
  have e0 : (U == 0) = false := by simp; omega
  have u0 : 1 ≤ U := by omega
  have u1 : U ≤ 9223372036854775808 := by omega
  have t1000 : U ≤ 999 := by omega
  have t1000000 : U ≤ 999999 := by omega
  have t1000000000 : U ≤ 999999999 := by omega
  obtain ⟨P1, hT1, hp1⟩ := named (decs (u)) (Nat.le_trans (decs_length 19 _ (by omega)) (by decide))
  have HT1 := Lib.hid hT1
  clear hT1
  have HB := Lib.hid (And.intro hU (show u ≤ 18446744073709551615 by omega))
  clear hU h0 h1
  go_enter Tryd.func11, Tryd.ntmps11
  go_wp2_with (first
    | (go_at_call 29; refine (unsigned_t P1 (u) _ HT1.out HB.out.1 HB.out.2 _).mono ?_; rintro e w1 ⟨rfl, hw1⟩; have Hw1 := Lib.hid hw1; clear hw1))
  go_ret
  refine ⟨ret_str ?_, Hw1.out⟩
  rw [HT1.out]
  rw [frac_zero]
  apply ByteArray.ext
  simp

set_option maxRecDepth 100000 in
set_option maxHeartbeats 1000000 in
theorem span_us_pos (u : Nat) (U : Int) (hU : U = (u : Int)) (w : World) (h0 : 1000 ≤ u) (h1 : u ≤ 999999) :
    Calls Tryd.prog 11 #[.int .i64 (U)] w fun e w' => e = .returned (.string ⟨(decs (u / 10 ^ 3) ++ (fracT u 3 ++ [194, 181, 115])).toArray⟩) ∧ Below w.heap.size w w' := by
  have e0 : (U == 0) = false := by simp; omega
  have u0 : 1 ≤ U := by omega
  have u1 : U ≤ 9223372036854775808 := by omega
  have t1000 : 1000 ≤ U := by omega
  have t1000000 : U ≤ 999999 := by omega
  have t1000000000 : U ≤ 999999999 := by omega
  obtain ⟨P1, hT1, hp1⟩ := named (decs (u / 10 ^ 3) ++ fracT u 3) (by have := decs_length 19 (u / 10 ^ 3) (by omega); have := fracT_length u 3; rw [List.length_append]; omega)
  have HT1 := Lib.hid hT1
  clear hT1
  have HB := Lib.hid (And.intro hU (show u ≤ 18446744073709551615 by omega))
  clear hU h0 h1
  go_enter Tryd.func11, Tryd.ntmps11
  go_wp2_with (first
    | (go_at_call 28; refine (part_t P1 (u) 3 _ _ _ HT1.out HB.out.1 (by decide) (by decide) HB.out.2 (by decide) _).mono ?_; rintro e w1 ⟨rfl, hw1⟩; have Hw1 := Lib.hid hw1; clear hw1))
  go_ret
  refine ⟨ret_str ?_, Hw1.out⟩
  rw [HT1.out]
  apply ByteArray.ext
  simp

set_option maxRecDepth 100000 in
set_option maxHeartbeats 1000000 in
theorem span_us_neg (u : Nat) (U : Int) (hU : U = (u : Int)) (w : World) (h0 : 1000 ≤ u) (h1 : u ≤ 999999) :
    Calls Tryd.prog 11 #[.int .i64 (-U)] w fun e w' => e = .returned (.string ⟨(45 :: (decs (u / 10 ^ 3) ++ (fracT u 3 ++ [194, 181, 115]))).toArray⟩) ∧ Below w.heap.size w w' := by
  have hw : IntKind.u64.wrap (-IntKind.u64.wrap (-U)) = U := by rw [IntKind.wrap_u64, IntKind.wrap_u64]; omega
  have e0 : (U == 0) = false := by simp; omega
  have u0 : 1 ≤ U := by omega
  have u1 : U ≤ 9223372036854775808 := by omega
  have t1000 : 1000 ≤ U := by omega
  have t1000000 : U ≤ 999999 := by omega
  have t1000000000 : U ≤ 999999999 := by omega
  obtain ⟨P1, hT1, hp1⟩ := named (decs (u / 10 ^ 3) ++ fracT u 3) (by have := decs_length 19 (u / 10 ^ 3) (by omega); have := fracT_length u 3; rw [List.length_append]; omega)
  have HT1 := Lib.hid hT1
  clear hT1
  have HB := Lib.hid (And.intro hU (show u ≤ 18446744073709551615 by omega))
  clear hU h0 h1
  go_enter Tryd.func11, Tryd.ntmps11
  go_wp2_with (first
    | (go_at_call 28; refine (part_t P1 (u) 3 _ _ _ HT1.out HB.out.1 (by decide) (by decide) HB.out.2 (by decide) _).mono ?_; rintro e w1 ⟨rfl, hw1⟩; have Hw1 := Lib.hid hw1; clear hw1))
  go_ret
  refine ⟨ret_str ?_, Hw1.out⟩
  rw [HT1.out]
  apply ByteArray.ext
  simp

set_option maxRecDepth 100000 in
set_option maxHeartbeats 1000000 in
theorem span_ms_pos (u : Nat) (U : Int) (hU : U = (u : Int)) (w : World) (h0 : 1000000 ≤ u) (h1 : u ≤ 999999999) :
    Calls Tryd.prog 11 #[.int .i64 (U)] w fun e w' => e = .returned (.string ⟨(decs (u / 10 ^ 6) ++ (fracT u 6 ++ [109, 115])).toArray⟩) ∧ Below w.heap.size w w' := by
  have e0 : (U == 0) = false := by simp; omega
  have u0 : 1 ≤ U := by omega
  have u1 : U ≤ 9223372036854775808 := by omega
  have t1000 : 1000 ≤ U := by omega
  have t1000000 : 1000000 ≤ U := by omega
  have t1000000000 : U ≤ 999999999 := by omega
  obtain ⟨P1, hT1, hp1⟩ := named (decs (u / 10 ^ 6) ++ fracT u 6) (by have := decs_length 19 (u / 10 ^ 6) (by omega); have := fracT_length u 6; rw [List.length_append]; omega)
  have HT1 := Lib.hid hT1
  clear hT1
  have HB := Lib.hid (And.intro hU (show u ≤ 18446744073709551615 by omega))
  clear hU h0 h1
  go_enter Tryd.func11, Tryd.ntmps11
  go_wp2_with (first
    | (go_at_call 28; refine (part_t P1 (u) 6 _ _ _ HT1.out HB.out.1 (by decide) (by decide) HB.out.2 (by decide) _).mono ?_; rintro e w1 ⟨rfl, hw1⟩; have Hw1 := Lib.hid hw1; clear hw1))
  go_ret
  refine ⟨ret_str ?_, Hw1.out⟩
  rw [HT1.out]
  apply ByteArray.ext
  simp

set_option maxRecDepth 100000 in
set_option maxHeartbeats 1000000 in
theorem span_ms_neg (u : Nat) (U : Int) (hU : U = (u : Int)) (w : World) (h0 : 1000000 ≤ u) (h1 : u ≤ 999999999) :
    Calls Tryd.prog 11 #[.int .i64 (-U)] w fun e w' => e = .returned (.string ⟨(45 :: (decs (u / 10 ^ 6) ++ (fracT u 6 ++ [109, 115]))).toArray⟩) ∧ Below w.heap.size w w' := by
  have hw : IntKind.u64.wrap (-IntKind.u64.wrap (-U)) = U := by rw [IntKind.wrap_u64, IntKind.wrap_u64]; omega
  have e0 : (U == 0) = false := by simp; omega
  have u0 : 1 ≤ U := by omega
  have u1 : U ≤ 9223372036854775808 := by omega
  have t1000 : 1000 ≤ U := by omega
  have t1000000 : 1000000 ≤ U := by omega
  have t1000000000 : U ≤ 999999999 := by omega
  obtain ⟨P1, hT1, hp1⟩ := named (decs (u / 10 ^ 6) ++ fracT u 6) (by have := decs_length 19 (u / 10 ^ 6) (by omega); have := fracT_length u 6; rw [List.length_append]; omega)
  have HT1 := Lib.hid hT1
  clear hT1
  have HB := Lib.hid (And.intro hU (show u ≤ 18446744073709551615 by omega))
  clear hU h0 h1
  go_enter Tryd.func11, Tryd.ntmps11
  go_wp2_with (first
    | (go_at_call 28; refine (part_t P1 (u) 6 _ _ _ HT1.out HB.out.1 (by decide) (by decide) HB.out.2 (by decide) _).mono ?_; rintro e w1 ⟨rfl, hw1⟩; have Hw1 := Lib.hid hw1; clear hw1))
  go_ret
  refine ⟨ret_str ?_, Hw1.out⟩
  rw [HT1.out]
  apply ByteArray.ext
  simp

set_option maxRecDepth 100000 in
set_option maxHeartbeats 1000000 in
theorem span_s_pos (u : Nat) (U : Int) (hU : U = (u : Int)) (w : World) (h0 : 1000000000 ≤ u) (h1 : u ≤ 59999999999) :
    Calls Tryd.prog 11 #[.int .i64 (U)] w fun e w' => e = .returned (.string ⟨(decs ((u / 10 ^ 9) % 60) ++ (fracT u 9 ++ [115])).toArray⟩) ∧ Below w.heap.size w w' := by
  have e0 : (U == 0) = false := by simp; omega
  have u0 : 1 ≤ U := by omega
  have u1 : U ≤ 9223372036854775808 := by omega
  have t1000 : 1000 ≤ U := by omega
  have t1000000 : 1000000 ≤ U := by omega
  have t1000000000 : 1000000000 ≤ U := by omega
  obtain ⟨X, eX⟩ : ∃ X : Int, U % 60000000000 = X := ⟨_, rfl⟩
  have x0 : 0 ≤ X := by omega
  have x1 : X ≤ 59999999999 := by omega
  obtain ⟨P1, hT1, hp1⟩ := named (decs ((u % 60000000000) / 10 ^ 9) ++ fracT (u % 60000000000) 9) (by have := decs_length 19 ((u % 60000000000) / 10 ^ 9) (by omega); have := fracT_length (u % 60000000000) 9; rw [List.length_append]; omega)
  have HT1 := Lib.hid hT1
  clear hT1
  have hX : X = ((u % 60000000000 : Nat) : Int) := by omega
  have eM : U / 60000000000 = 0 := by omega
  have HX := Lib.hid (And.intro hX (And.intro h1 (And.intro h0 hU)))
  clear hX
  have HB := Lib.hid (And.intro hU (show u ≤ 18446744073709551615 by omega))
  clear hU h0 h1
  go_enter Tryd.func11, Tryd.ntmps11
  go_wp2_with (first
    | (go_at_call 28; refine (part_t P1 (u % 60000000000) 9 _ _ _ HT1.out HX.out.1 (by decide) (by decide) (by have := HX.out; omega) (by decide) _).mono ?_; rintro e w1 ⟨rfl, hw1⟩; have Hw1 := Lib.hid hw1; clear hw1))
  go_ret
  refine ⟨ret_str ?_, Hw1.out⟩
  have hz := HX.out
  rw [HT1.out]
  rw [frac_mod60, show u % 60000000000 / 10 ^ 9 = u / 10 ^ 9 % 60 by omega]
  apply ByteArray.ext
  simp

set_option maxRecDepth 100000 in
set_option maxHeartbeats 1000000 in
theorem span_s_neg (u : Nat) (U : Int) (hU : U = (u : Int)) (w : World) (h0 : 1000000000 ≤ u) (h1 : u ≤ 59999999999) :
    Calls Tryd.prog 11 #[.int .i64 (-U)] w fun e w' => e = .returned (.string ⟨(45 :: (decs ((u / 10 ^ 9) % 60) ++ (fracT u 9 ++ [115]))).toArray⟩) ∧ Below w.heap.size w w' := by
  have hw : IntKind.u64.wrap (-IntKind.u64.wrap (-U)) = U := by rw [IntKind.wrap_u64, IntKind.wrap_u64]; omega
  have e0 : (U == 0) = false := by simp; omega
  have u0 : 1 ≤ U := by omega
  have u1 : U ≤ 9223372036854775808 := by omega
  have t1000 : 1000 ≤ U := by omega
  have t1000000 : 1000000 ≤ U := by omega
  have t1000000000 : 1000000000 ≤ U := by omega
  obtain ⟨X, eX⟩ : ∃ X : Int, U % 60000000000 = X := ⟨_, rfl⟩
  have x0 : 0 ≤ X := by omega
  have x1 : X ≤ 59999999999 := by omega
  obtain ⟨P1, hT1, hp1⟩ := named (decs ((u % 60000000000) / 10 ^ 9) ++ fracT (u % 60000000000) 9) (by have := decs_length 19 ((u % 60000000000) / 10 ^ 9) (by omega); have := fracT_length (u % 60000000000) 9; rw [List.length_append]; omega)
  have HT1 := Lib.hid hT1
  clear hT1
  have hX : X = ((u % 60000000000 : Nat) : Int) := by omega
  have eM : U / 60000000000 = 0 := by omega
  have HX := Lib.hid (And.intro hX (And.intro h1 (And.intro h0 hU)))
  clear hX
  have HB := Lib.hid (And.intro hU (show u ≤ 18446744073709551615 by omega))
  clear hU h0 h1
  go_enter Tryd.func11, Tryd.ntmps11
  go_wp2_with (first
    | (go_at_call 28; refine (part_t P1 (u % 60000000000) 9 _ _ _ HT1.out HX.out.1 (by decide) (by decide) (by have := HX.out; omega) (by decide) _).mono ?_; rintro e w1 ⟨rfl, hw1⟩; have Hw1 := Lib.hid hw1; clear hw1))
  go_ret
  refine ⟨ret_str ?_, Hw1.out⟩
  have hz := HX.out
  rw [HT1.out]
  rw [frac_mod60, show u % 60000000000 / 10 ^ 9 = u / 10 ^ 9 % 60 by omega]
  apply ByteArray.ext
  simp

set_option maxRecDepth 100000 in
set_option maxHeartbeats 1000000 in
theorem span_m_pos (u : Nat) (U : Int) (hU : U = (u : Int)) (w : World) (h0 : 60000000000 ≤ u) (h1 : u ≤ 3599999999999) :
    Calls Tryd.prog 11 #[.int .i64 (U)] w fun e w' => e = .returned (.string ⟨(decs ((u / 10 ^ 9) / 60 % 60) ++ (109 :: (decs ((u / 10 ^ 9) % 60) ++ (fracT u 9 ++ [115])))).toArray⟩) ∧ Below w.heap.size w w' := by
  have e0 : (U == 0) = false := by simp; omega
  have u0 : 1 ≤ U := by omega
  have u1 : U ≤ 9223372036854775808 := by omega
  have t1000 : 1000 ≤ U := by omega
  have t1000000 : 1000000 ≤ U := by omega
  have t1000000000 : 1000000000 ≤ U := by omega
  obtain ⟨X, eX⟩ : ∃ X : Int, U % 60000000000 = X := ⟨_, rfl⟩
  have x0 : 0 ≤ X := by omega
  have x1 : X ≤ 59999999999 := by omega
  obtain ⟨P1, hT1, hp1⟩ := named (decs ((u % 60000000000) / 10 ^ 9) ++ fracT (u % 60000000000) 9) (by have := decs_length 19 ((u % 60000000000) / 10 ^ 9) (by omega); have := fracT_length (u % 60000000000) 9; rw [List.length_append]; omega)
  have HT1 := Lib.hid hT1
  clear hT1
  have hX : X = ((u % 60000000000 : Nat) : Int) := by omega
  obtain ⟨M, eM⟩ : ∃ M : Int, U / 60000000000 = M := ⟨_, rfl⟩
  have m1 : 1 ≤ M := by omega
  have hM : M = ((u / 60000000000 : Nat) : Int) := by omega
  obtain ⟨P2, hT2, hp2⟩ := named (decs (u / 60000000000 % 60)) (Nat.le_trans (decs_length 19 _ (by omega)) (by decide))
  have HT2 := Lib.hid hT2
  clear hT2
  have m2 : M ≤ 59 := by omega
  have HX := Lib.hid (And.intro hX (And.intro h1 (And.intro h0 hM)))
  clear hX hM
  have HB := Lib.hid (And.intro hU (show u ≤ 18446744073709551615 by omega))
  clear hU h0 h1
  go_enter Tryd.func11, Tryd.ntmps11
  go_wp2_with (first
    | (go_at_call 29; refine (unsigned_t P2 (u / 60000000000 % 60) _ HT2.out (by have := w1; have := HX.out; omega) (by have := HX.out; omega) _).mono ?_; rintro e w2 ⟨rfl, hw2⟩; have Hw2 := Lib.hid hw2; clear hw2)
    | (go_at_call 28; refine (part_t P1 (u % 60000000000) 9 _ _ _ HT1.out HX.out.1 (by decide) (by decide) (by have := HX.out; omega) (by decide) _).mono ?_; rintro e w1 ⟨rfl, hw1⟩; have Hw1 := Lib.hid hw1; clear hw1))
  go_ret
  refine ⟨ret_str ?_, (Hw1.out.trans (Hw2.out.mono (Hw1.out).size))⟩
  have hz := HX.out
  rw [HT1.out, HT2.out]
  rw [frac_mod60, show u % 60000000000 / 10 ^ 9 = u / 10 ^ 9 % 60 by omega, show u / 60000000000 % 60 = u / 10 ^ 9 / 60 % 60 by omega]
  apply ByteArray.ext
  simp

set_option maxRecDepth 100000 in
set_option maxHeartbeats 1000000 in
theorem span_m_neg (u : Nat) (U : Int) (hU : U = (u : Int)) (w : World) (h0 : 60000000000 ≤ u) (h1 : u ≤ 3599999999999) :
    Calls Tryd.prog 11 #[.int .i64 (-U)] w fun e w' => e = .returned (.string ⟨(45 :: (decs ((u / 10 ^ 9) / 60 % 60) ++ (109 :: (decs ((u / 10 ^ 9) % 60) ++ (fracT u 9 ++ [115]))))).toArray⟩) ∧ Below w.heap.size w w' := by
  have hw : IntKind.u64.wrap (-IntKind.u64.wrap (-U)) = U := by rw [IntKind.wrap_u64, IntKind.wrap_u64]; omega
  have e0 : (U == 0) = false := by simp; omega
  have u0 : 1 ≤ U := by omega
  have u1 : U ≤ 9223372036854775808 := by omega
  have t1000 : 1000 ≤ U := by omega
  have t1000000 : 1000000 ≤ U := by omega
  have t1000000000 : 1000000000 ≤ U := by omega
  obtain ⟨X, eX⟩ : ∃ X : Int, U % 60000000000 = X := ⟨_, rfl⟩
  have x0 : 0 ≤ X := by omega
  have x1 : X ≤ 59999999999 := by omega
  obtain ⟨P1, hT1, hp1⟩ := named (decs ((u % 60000000000) / 10 ^ 9) ++ fracT (u % 60000000000) 9) (by have := decs_length 19 ((u % 60000000000) / 10 ^ 9) (by omega); have := fracT_length (u % 60000000000) 9; rw [List.length_append]; omega)
  have HT1 := Lib.hid hT1
  clear hT1
  have hX : X = ((u % 60000000000 : Nat) : Int) := by omega
  obtain ⟨M, eM⟩ : ∃ M : Int, U / 60000000000 = M := ⟨_, rfl⟩
  have m1 : 1 ≤ M := by omega
  have hM : M = ((u / 60000000000 : Nat) : Int) := by omega
  obtain ⟨P2, hT2, hp2⟩ := named (decs (u / 60000000000 % 60)) (Nat.le_trans (decs_length 19 _ (by omega)) (by decide))
  have HT2 := Lib.hid hT2
  clear hT2
  have m2 : M ≤ 59 := by omega
  have HX := Lib.hid (And.intro hX (And.intro h1 (And.intro h0 hM)))
  clear hX hM
  have HB := Lib.hid (And.intro hU (show u ≤ 18446744073709551615 by omega))
  clear hU h0 h1
  go_enter Tryd.func11, Tryd.ntmps11
  go_wp2_with (first
    | (go_at_call 29; refine (unsigned_t P2 (u / 60000000000 % 60) _ HT2.out (by have := w1; have := HX.out; omega) (by have := HX.out; omega) _).mono ?_; rintro e w2 ⟨rfl, hw2⟩; have Hw2 := Lib.hid hw2; clear hw2)
    | (go_at_call 28; refine (part_t P1 (u % 60000000000) 9 _ _ _ HT1.out HX.out.1 (by decide) (by decide) (by have := HX.out; omega) (by decide) _).mono ?_; rintro e w1 ⟨rfl, hw1⟩; have Hw1 := Lib.hid hw1; clear hw1))
  go_ret
  refine ⟨ret_str ?_, (Hw1.out.trans (Hw2.out.mono (Hw1.out).size))⟩
  have hz := HX.out
  rw [HT1.out, HT2.out]
  rw [frac_mod60, show u % 60000000000 / 10 ^ 9 = u / 10 ^ 9 % 60 by omega, show u / 60000000000 % 60 = u / 10 ^ 9 / 60 % 60 by omega]
  apply ByteArray.ext
  simp

set_option maxRecDepth 100000 in
set_option maxHeartbeats 1000000 in
theorem span_h_pos (u : Nat) (U : Int) (hU : U = (u : Int)) (w : World) (h0 : 3600000000000 ≤ u) (h1 : u ≤ 9223372036854775807) :
    Calls Tryd.prog 11 #[.int .i64 (U)] w fun e w' => e = .returned (.string ⟨(decs ((u / 10 ^ 9) / 60 / 60) ++ (104 :: (decs ((u / 10 ^ 9) / 60 % 60) ++ (109 :: (decs ((u / 10 ^ 9) % 60) ++ (fracT u 9 ++ [115])))))).toArray⟩) ∧ Below w.heap.size w w' := by
  have e0 : (U == 0) = false := by simp; omega
  have u0 : 1 ≤ U := by omega
  have u1 : U ≤ 9223372036854775808 := by omega
  have t1000 : 1000 ≤ U := by omega
  have t1000000 : 1000000 ≤ U := by omega
  have t1000000000 : 1000000000 ≤ U := by omega
  obtain ⟨X, eX⟩ : ∃ X : Int, U % 60000000000 = X := ⟨_, rfl⟩
  have x0 : 0 ≤ X := by omega
  have x1 : X ≤ 59999999999 := by omega
  obtain ⟨P1, hT1, hp1⟩ := named (decs ((u % 60000000000) / 10 ^ 9) ++ fracT (u % 60000000000) 9) (by have := decs_length 19 ((u % 60000000000) / 10 ^ 9) (by omega); have := fracT_length (u % 60000000000) 9; rw [List.length_append]; omega)
  have HT1 := Lib.hid hT1
  clear hT1
  have hX : X = ((u % 60000000000 : Nat) : Int) := by omega
  obtain ⟨M, eM⟩ : ∃ M : Int, U / 60000000000 = M := ⟨_, rfl⟩
  have m1 : 1 ≤ M := by omega
  have hM : M = ((u / 60000000000 : Nat) : Int) := by omega
  obtain ⟨P2, hT2, hp2⟩ := named (decs (u / 60000000000 % 60)) (Nat.le_trans (decs_length 19 _ (by omega)) (by decide))
  have HT2 := Lib.hid hT2
  clear hT2
  have m2 : M ≤ 153722867 := by omega
  have m3 : 60 ≤ M := by omega
  obtain ⟨P3, hT3, hp3⟩ := named (decs (u / 60000000000 / 60)) (Nat.le_trans (decs_length 19 _ (by omega)) (by decide))
  have HT3 := Lib.hid hT3
  clear hT3
  have HX := Lib.hid (And.intro hX (And.intro h1 (And.intro h0 hM)))
  clear hX hM
  have HB := Lib.hid (And.intro hU (show u ≤ 18446744073709551615 by omega))
  clear hU h0 h1
  go_enter Tryd.func11, Tryd.ntmps11
  go_wp2_with (first
    | (go_at_call 29; refine (unsigned_t P3 (u / 60000000000 / 60) _ HT3.out (by have := w2; have := HX.out; omega) (by have := HX.out; omega) _).mono ?_; rintro e w3 ⟨rfl, hw3⟩; have Hw3 := Lib.hid hw3; clear hw3)
    | (go_at_call 29; refine (unsigned_t P2 (u / 60000000000 % 60) _ HT2.out (by have := w1; have := HX.out; omega) (by have := HX.out; omega) _).mono ?_; rintro e w2 ⟨rfl, hw2⟩; have Hw2 := Lib.hid hw2; clear hw2)
    | (go_at_call 28; refine (part_t P1 (u % 60000000000) 9 _ _ _ HT1.out HX.out.1 (by decide) (by decide) (by have := HX.out; omega) (by decide) _).mono ?_; rintro e w1 ⟨rfl, hw1⟩; have Hw1 := Lib.hid hw1; clear hw1))
  go_ret
  refine ⟨ret_str ?_, ((Hw1.out.trans (Hw2.out.mono (Hw1.out).size)).trans (Hw3.out.mono ((Hw1.out.trans (Hw2.out.mono (Hw1.out).size))).size))⟩
  have hz := HX.out
  rw [HT1.out, HT2.out, HT3.out]
  rw [frac_mod60, show u % 60000000000 / 10 ^ 9 = u / 10 ^ 9 % 60 by omega, show u / 60000000000 % 60 = u / 10 ^ 9 / 60 % 60 by omega, show u / 60000000000 / 60 = u / 10 ^ 9 / 60 / 60 by omega]
  apply ByteArray.ext
  simp

set_option maxRecDepth 100000 in
set_option maxHeartbeats 1000000 in
theorem span_h_neg (u : Nat) (U : Int) (hU : U = (u : Int)) (w : World) (h0 : 3600000000000 ≤ u) (h1 : u ≤ 9223372036854775808) :
    Calls Tryd.prog 11 #[.int .i64 (-U)] w fun e w' => e = .returned (.string ⟨(45 :: (decs ((u / 10 ^ 9) / 60 / 60) ++ (104 :: (decs ((u / 10 ^ 9) / 60 % 60) ++ (109 :: (decs ((u / 10 ^ 9) % 60) ++ (fracT u 9 ++ [115]))))))).toArray⟩) ∧ Below w.heap.size w w' := by
  have hw : IntKind.u64.wrap (-IntKind.u64.wrap (-U)) = U := by rw [IntKind.wrap_u64, IntKind.wrap_u64]; omega
  have e0 : (U == 0) = false := by simp; omega
  have u0 : 1 ≤ U := by omega
  have u1 : U ≤ 9223372036854775808 := by omega
  have t1000 : 1000 ≤ U := by omega
  have t1000000 : 1000000 ≤ U := by omega
  have t1000000000 : 1000000000 ≤ U := by omega
  obtain ⟨X, eX⟩ : ∃ X : Int, U % 60000000000 = X := ⟨_, rfl⟩
  have x0 : 0 ≤ X := by omega
  have x1 : X ≤ 59999999999 := by omega
  obtain ⟨P1, hT1, hp1⟩ := named (decs ((u % 60000000000) / 10 ^ 9) ++ fracT (u % 60000000000) 9) (by have := decs_length 19 ((u % 60000000000) / 10 ^ 9) (by omega); have := fracT_length (u % 60000000000) 9; rw [List.length_append]; omega)
  have HT1 := Lib.hid hT1
  clear hT1
  have hX : X = ((u % 60000000000 : Nat) : Int) := by omega
  obtain ⟨M, eM⟩ : ∃ M : Int, U / 60000000000 = M := ⟨_, rfl⟩
  have m1 : 1 ≤ M := by omega
  have hM : M = ((u / 60000000000 : Nat) : Int) := by omega
  obtain ⟨P2, hT2, hp2⟩ := named (decs (u / 60000000000 % 60)) (Nat.le_trans (decs_length 19 _ (by omega)) (by decide))
  have HT2 := Lib.hid hT2
  clear hT2
  have m2 : M ≤ 153722867 := by omega
  have m3 : 60 ≤ M := by omega
  obtain ⟨P3, hT3, hp3⟩ := named (decs (u / 60000000000 / 60)) (Nat.le_trans (decs_length 19 _ (by omega)) (by decide))
  have HT3 := Lib.hid hT3
  clear hT3
  have HX := Lib.hid (And.intro hX (And.intro h1 (And.intro h0 hM)))
  clear hX hM
  have HB := Lib.hid (And.intro hU (show u ≤ 18446744073709551615 by omega))
  clear hU h0 h1
  go_enter Tryd.func11, Tryd.ntmps11
  go_wp2_with (first
    | (go_at_call 29; refine (unsigned_t P3 (u / 60000000000 / 60) _ HT3.out (by have := w2; have := HX.out; omega) (by have := HX.out; omega) _).mono ?_; rintro e w3 ⟨rfl, hw3⟩; have Hw3 := Lib.hid hw3; clear hw3)
    | (go_at_call 29; refine (unsigned_t P2 (u / 60000000000 % 60) _ HT2.out (by have := w1; have := HX.out; omega) (by have := HX.out; omega) _).mono ?_; rintro e w2 ⟨rfl, hw2⟩; have Hw2 := Lib.hid hw2; clear hw2)
    | (go_at_call 28; refine (part_t P1 (u % 60000000000) 9 _ _ _ HT1.out HX.out.1 (by decide) (by decide) (by have := HX.out; omega) (by decide) _).mono ?_; rintro e w1 ⟨rfl, hw1⟩; have Hw1 := Lib.hid hw1; clear hw1))
  go_ret
  refine ⟨ret_str ?_, ((Hw1.out.trans (Hw2.out.mono (Hw1.out).size)).trans (Hw3.out.mono ((Hw1.out.trans (Hw2.out.mono (Hw1.out).size))).size))⟩
  have hz := HX.out
  rw [HT1.out, HT2.out, HT3.out]
  rw [frac_mod60, show u % 60000000000 / 10 ^ 9 = u / 10 ^ 9 % 60 by omega, show u / 60000000000 % 60 = u / 10 ^ 9 / 60 % 60 by omega, show u / 60000000000 / 60 = u / 10 ^ 9 / 60 / 60 by omega]
  apply ByteArray.ext
  simp

set_option maxRecDepth 100000 in
theorem span_zero (w : World) : Calls Tryd.prog 11 #[.int .i64 0] w fun e w' => e = .returned (.string ⟨#[48, 115]⟩) ∧ Below w.heap.size w w' := by
  go_enter Tryd.func11, Tryd.ntmps11
  go_wp2
  go_ret
  exact ⟨rfl, Below.refl _ _⟩
theorem sspan (d : Int) (w : World) (h0 : -9223372036854775808 ≤ d) (h1 : d ≤ 9223372036854775807) :
    Calls Tryd.prog 11 #[.int .i64 d] w fun e w' => e = .returned (.string ⟨(spanT d).toArray⟩) ∧ Below w.heap.size w w' := by
  unfold spanT
  by_cases hz : d = 0
  · subst hz
    rw [if_pos rfl]
    exact span_zero w
  · rw [if_neg hz]
    by_cases hn : d < 0
    · rw [if_pos hn]
      obtain ⟨u, hu⟩ : ∃ u : Nat, u = (-d).toNat := ⟨_, rfl⟩
      rw [← hu]
      have hd : d = -(u : Int) := by omega
      rw [hd]
      have hu0 : 1 ≤ u := by omega
      have hu1 : u ≤ 9223372036854775808 := by omega
      clear hu hd h0 h1 hz hn
      unfold spanU
      by_cases h0 : u ≤ 999
      · rw [if_pos h0]; exact span_ns_neg u _ rfl w (by omega) h0
      rw [if_neg h0]
      by_cases h1 : u ≤ 999999
      · rw [if_pos h1]; exact span_us_neg u _ rfl w (by omega) h1
      rw [if_neg h1]
      by_cases h2 : u ≤ 999999999
      · rw [if_pos h2]; exact span_ms_neg u _ rfl w (by omega) h2
      rw [if_neg h2]
      by_cases h3 : u ≤ 59999999999
      · rw [if_pos h3]; exact span_s_neg u _ rfl w (by omega) h3
      rw [if_neg h3]
      by_cases h4 : u ≤ 3599999999999
      · rw [if_pos h4]; exact span_m_neg u _ rfl w (by omega) h4
      rw [if_neg h4]
      exact span_h_neg u _ rfl w (by omega) hu1
    · rw [if_neg hn]
      obtain ⟨u, hu⟩ : ∃ u : Nat, u = d.toNat := ⟨_, rfl⟩
      rw [← hu]
      have hd : d = (u : Int) := by omega
      rw [hd]
      have hu0 : 1 ≤ u := by omega
      have hu1 : u ≤ 9223372036854775807 := by omega
      clear hu hd h0 h1 hz hn
      unfold spanU
      by_cases h0 : u ≤ 999
      · rw [if_pos h0]; exact span_ns_pos u _ rfl w (by omega) h0
      rw [if_neg h0]
      by_cases h1 : u ≤ 999999
      · rw [if_pos h1]; exact span_us_pos u _ rfl w (by omega) h1
      rw [if_neg h1]
      by_cases h2 : u ≤ 999999999
      · rw [if_pos h2]; exact span_ms_pos u _ rfl w (by omega) h2
      rw [if_neg h2]
      by_cases h3 : u ≤ 59999999999
      · rw [if_pos h3]; exact span_s_pos u _ rfl w (by omega) h3
      rw [if_neg h3]
      by_cases h4 : u ≤ 3599999999999
      · rw [if_pos h4]; exact span_m_pos u _ rfl w (by omega) h4
      rw [if_neg h4]
      exact span_h_pos u _ rfl w (by omega) hu1
end Go.Proofs.YtdbnconphcaclaaDoor
