/-
  spec.Stamp: the same text of a time (printed by wip/gen_stamp.py). Conditions: as each theorem says.
-/
import Derived.Test.YtdbnconphcaclaaDoorStamp1
namespace Go.Proofs.YtdbnconphcaclaaDoor
open Go.RowKit
set_option linter.unusedVariables false


set_option maxRecDepth 100000 in
set_option maxHeartbeats 2000000 in
theorem stamp_nano_utc_low (ns Q R off m : Int) (h : ns = 1000000000 * Q + R) (v : Nat) (hv : R = (v : Int)) (hv1 : v ≤ 999999999) (n0 : -9223372036854775808 ≤ ns) (n1 : ns ≤ 9223372036854775807) (hm0 : -840 ≤ m) (hm1 : m ≤ 840) (hoff : off = 60 * m) (E n s : Nat) (hQ : Q + off = 86400 * (146097 * (E : Int) + (n : Int) - 719468) + (s : Int)) (hE : E ≤ 10) (hn : n < 146097) (hs : s < 86400) (hz : m = 0) (hvz : 1 ≤ v) (hmp : mpOf n ≤ 9) (w : World) :
    Calls Tryd.prog 19 #[.int .i64 ns, .int .i64 off, .bool true] w fun e w' => e = .returned (.string ⟨(fullT E n s v m true).toArray⟩) ∧ Below w.heap.size w w' := by
  have q0 : -9223372037 ≤ Q := by omega
  have q1 : Q ≤ 9223372036 := by omega
  have eR : ns - Q * 1000000000 = R := by omega
  have r0 : 0 ≤ R := by omega
  have r1 : R ≤ 999999999 := by omega
  have o0 : -50400 ≤ off := by omega
  have o1 : off ≤ 50400 := by omega
  obtain ⟨S, hS⟩ : ∃ S : Int, Q + off = S := ⟨_, rfl⟩
  have s0 : -9223500000 ≤ S := by omega
  have s1 : S ≤ 9223500000 := by omega
  obtain ⟨D, hD⟩ : ∃ D : Int, D = 146097 * (E : Int) + (n : Int) - 719468 := ⟨_, rfl⟩
  have hD2 : D = S / 86400 := by omega
  obtain ⟨z, hzz⟩ : ∃ z : Int, z = (s : Int) := ⟨_, rfl⟩
  have eZ : S - D * 86400 = z := by omega
  have z0 : 0 ≤ z := by omega
  have z1 : z ≤ 86399 := by omega
  have d0 : -120000 ≤ D := by omega
  have d1 : D ≤ 120000 := by omega
  obtain ⟨N2, eN2⟩ : ∃ N2 : Int, D + 719468 = N2 := ⟨_, rfl⟩
  obtain ⟨F, hF⟩ : ∃ F : Int, F = (E : Int) := ⟨_, rfl⟩
  have hF2 : F = N2 / 146097 := by omega
  obtain ⟨x, hx⟩ : ∃ x : Int, x = (n : Int) := ⟨_, rfl⟩
  have eX : N2 - F * 146097 = x := by omega
  have x0 : 0 ≤ x := by omega
  have x1 : x ≤ 146096 := by omega
  have f0 : 0 ≤ F := by omega
  have f1 : F ≤ 10 := by omega
  have N0 : 0 ≤ N2 := by omega
  have N1 : N2 ≤ 2000000 := by omega
  obtain ⟨j1, j2, j3, j4, j5⟩ := stamp_parts E n hn
  obtain ⟨Y0, hY0⟩ : ∃ Y0 : Int, Y0 = ((100 * cOf n + cyOf n : Nat) : Int) := ⟨_, rfl⟩
  obtain ⟨I, hI⟩ : ∃ I : Int, I = (ydOf n : Int) := ⟨_, rfl⟩
  obtain ⟨P, hP⟩ : ∃ P : Int, P = (mpOf n : Int) := ⟨_, rfl⟩
  obtain ⟨DY, hDY⟩ : ∃ DY : Int, DY = (dayN n : Int) := ⟨_, rfl⟩
  have eY : (x - x / 1460 + x / 36524 - x / 146096) / 365 = Y0 := by rw [hx, hY0, ← j1]; omega
  have y0 : 0 ≤ Y0 := by omega
  have y1 : Y0 ≤ 399 := by omega
  have eI : x - (365 * Y0 + Y0 / 4 - Y0 / 100) = I := by rw [hx, hY0, hI]; omega
  have i0 : 0 ≤ I := by omega
  have i1 : I ≤ 365 := by omega
  have eP : (5 * I + 2) / 153 = P := by rw [hI, hP]; unfold mpOf; omega
  have p0 : 0 ≤ P := by omega
  have p1 : P ≤ 11 := by omega
  have eD : I - (153 * P + 2) / 5 + 1 = DY := by rw [hI, hP, hDY]; omega
  have hwR : wrap64 (ns - wrap64 (Q * 1000000000)) = R := by
    unfold wrap64; omega
  have hbnd : yearN E n ≤ 9999 ∧ monthN n ≤ 99 ∧ dayN n ≤ 99 := ⟨year_le E n hE hn, (month_le n hn).1, (month_le n hn).2⟩
  have yl : yearN E n = 400 * E + (100 * cOf n + cyOf n) := by unfold yearN; rw [if_neg (by omega), Nat.add_zero]
  have ml : monthN n = mpOf n + 3 := by unfold monthN; rw [if_neg (by omega)]
  have pl : P < 10 := by omega
  have ho : off = 0 := by omega
  have rz : 1 ≤ R := by omega
  obtain ⟨T1, hT1, hp1⟩ := named (padT (yearN E n) 4) (padT_length _ _ (by decide) (by have := hbnd; omega))
  have HT1 := Lib.hid hT1
  clear hT1
  obtain ⟨T2, hT2, hp2⟩ := named (padT (monthN n) 2) (padT_length _ _ (by decide) (by have := hbnd; omega))
  have HT2 := Lib.hid hT2
  clear hT2
  obtain ⟨T3, hT3, hp3⟩ := named (padT (dayN n) 2) (padT_length _ _ (by decide) (by have := hbnd; omega))
  have HT3 := Lib.hid hT3
  clear hT3
  obtain ⟨T4, hT4, hp4⟩ := named (padT (s / 3600) 2) (padT_length _ _ (by decide) (by have := hbnd; omega))
  have HT4 := Lib.hid hT4
  clear hT4
  obtain ⟨T5, hT5, hp5⟩ := named (padT (s / 60 % 60) 2) (padT_length _ _ (by decide) (by have := hbnd; omega))
  have HT5 := Lib.hid hT5
  clear hT5
  obtain ⟨T6, hT6, hp6⟩ := named (padT (s % 60) 2) (padT_length _ _ (by decide) (by have := hbnd; omega))
  have HT6 := Lib.hid hT6
  clear hT6
  obtain ⟨T7, hT7, hp7⟩ := named (padT (v) 9) (padT_length _ _ (by decide) (by have := hbnd; omega))
  have HT7 := Lib.hid hT7
  clear hT7
  have HP := Lib.hid (And.intro hY0 (And.intro hI (And.intro hP (And.intro hDY (And.intro yl (And.intro ml (And.intro hbnd hmp)))))))
  clear hY0 hI hP hDY yl ml hbnd hmp j1 j2 j3 j4 j5
  have HA := Lib.hid (And.intro h (And.intro hv (And.intro hv1 (And.intro hoff (And.intro hE (And.intro hn (And.intro hs hQ)))))))
  have HD := Lib.hid (And.intro hD (And.intro hD2 (And.intro hzz (And.intro hF (And.intro hF2 hx)))))
  clear h hv hv1 hoff hE hn hs hQ hD hD2 hzz hF hF2 hx
  have HZ := Lib.hid (And.intro ho hz)
  clear hz hm0 hm1
  subst ho
  have HF := Lib.hid (show fracs v 9 ≠ [] from fracs_ne (by have := HA.out; omega))
  go_enter Tryd.func19, Tryd.ntmps19
  go_wp2_with (first
    | (have _ := G6; go_at_call 30; refine (padded_t T7 (v) 9 _ _ HT7.out (by have := HA.out; omega) (by decide) (by have := HA.out; omega) (by decide) _).mono ?_; rintro e w7 ⟨rfl, hb7⟩; have G7 := Lib.hid ((G6.out.trans (hb7.mono G6.out.size))); clear hb7)
    | (have _ := G5; go_at_call 30; refine (padded_t T6 (s % 60) 2 _ _ HT6.out (by have := HP.out; have := HD.out; have := HA.out; omega) (by decide) (by have := HP.out; have := HD.out; have := HA.out; omega) (by decide) _).mono ?_; rintro e w6 ⟨rfl, hb6⟩; have G6 := Lib.hid ((G5.out.trans (hb6.mono G5.out.size))); clear hb6)
    | (have _ := G4; go_at_call 30; refine (padded_t T5 (s / 60 % 60) 2 _ _ HT5.out (by have := HP.out; have := HD.out; have := HA.out; omega) (by decide) (by have := HP.out; have := HD.out; have := HA.out; omega) (by decide) _).mono ?_; rintro e w5 ⟨rfl, hb5⟩; have G5 := Lib.hid ((G4.out.trans (hb5.mono G4.out.size))); clear hb5)
    | (have _ := G3; go_at_call 30; refine (padded_t T4 (s / 3600) 2 _ _ HT4.out (by have := HP.out; have := HD.out; have := HA.out; omega) (by decide) (by have := HP.out; have := HD.out; have := HA.out; omega) (by decide) _).mono ?_; rintro e w4 ⟨rfl, hb4⟩; have G4 := Lib.hid ((G3.out.trans (hb4.mono G3.out.size))); clear hb4)
    | (have _ := G2; go_at_call 30; refine (padded_t T3 (dayN n) 2 _ _ HT3.out (by have := HP.out; have := HD.out; have := HA.out; omega) (by decide) (by have := HP.out; have := HD.out; have := HA.out; omega) (by decide) _).mono ?_; rintro e w3 ⟨rfl, hb3⟩; have G3 := Lib.hid ((G2.out.trans (hb3.mono G2.out.size))); clear hb3)
    | (have _ := G1; go_at_call 30; refine (padded_t T2 (monthN n) 2 _ _ HT2.out (by have := HP.out; have := HD.out; have := HA.out; omega) (by decide) (by have := HP.out; have := HD.out; have := HA.out; omega) (by decide) _).mono ?_; rintro e w2 ⟨rfl, hb2⟩; have G2 := Lib.hid ((G1.out.trans (hb2.mono G1.out.size))); clear hb2)
    | (have _ := g3; go_at_call 30; refine (padded_t T1 (yearN E n) 4 _ _ HT1.out (by have := HP.out; have := HD.out; have := HA.out; omega) (by decide) (by have := HP.out; have := HD.out; have := HA.out; omega) (by decide) _).mono ?_; rintro e w1 ⟨rfl, hb1⟩; have G1 := Lib.hid (hb1); clear hb1)
    | (have _ := g2; go_at_call 40; refine (floor_146097 N2 F HD.out.2.2.2.2.1 (by omega) (by omega) _).mono ?_; rintro e wf ⟨rfl, hwf⟩; have hwf2 := hwf.symm; clear hwf; subst hwf2; have g3 := True.intro)
    | (have _ := g1; go_at_call 40; refine (floor_86400 S D HD.out.2.1 (by omega) (by omega) _).mono ?_; rintro e wf ⟨rfl, hwf⟩; have hwf2 := hwf.symm; clear hwf; subst hwf2; have g2 := True.intro)
    | (go_at_call 40; refine (floor_1000000000 ns Q (by have := HA.out; omega) n0 n1 _).mono ?_; rintro e wf ⟨rfl, hwf⟩; have hwf2 := hwf.symm; clear hwf; subst hwf2; have g1 := True.intro))
  go_loopw [17] (fun f wr => ∃ (l : List UInt8) (X : ByteArray), f = .string X ∧ X = ⟨l.toArray⟩ ∧ stripz l = fracs v 9 ∧ l.length ≤ 9 ∧ Below w.heap.size w wr) (fun f _ => strLen f)
  case atStart => exact ⟨padT v 9, _, rfl, by rw [HT7.out], by rw [padT_eq 8 v (by have := HA.out; omega), stripz_fracs], by rw [padT_eq 8 v (by have := HA.out; omega), padz_length]; decide, G7.out⟩
  case round =>
    obtain ⟨l, X, rfl, hX, hl, hlp, hbel⟩ := hrel
    obtain ⟨l', a', rfl⟩ := last_of l (by rw [hl]; exact HF.out)
    have hsz : X.size = l'.length + 1 := by rw [hX, arr_size]; simp
    have hs1 : 1 ≤ X.size := by omega
    have hs2 : X.size ≤ 9 := by (simp at hlp); omega
    have hlast : X[l'.length]'(by omega) = a' := by
      subst hX
      show (l' ++ [a']).toArray[l'.length]'_ = a'
      simp
    by_cases ha' : a' = 48
    · have hb48 : (X[l'.length]'(by omega)).toNat = 48 := by rw [hlast, ha']; rfl
      have hx' : X.extract 0 l'.length = ⟨l'.toArray⟩ := by
        apply ByteArray.ext
        rw [hX]
        simp
      have HQ := Lib.hid (And.intro hX (And.intro hl (And.intro hlp (And.intro hbel (And.intro ha' (And.intro hlast hx'))))))
      clear hX hl hlp hbel ha' hlast hx'
      go_wp2
      go_roundw
      case rel => exact ⟨l', _, rfl, HQ.out.2.2.2.2.2.2, by rw [← HQ.out.2.1, HQ.out.2.2.2.2.1, stripz_snoc0], by have := HQ.out.2.2.1; simp at this; omega, HQ.out.2.2.2.1⟩
      case measure => simp [strLen]; omega
    · have hb48 : (((X[l'.length]'(by omega)).toNat : Int) == 48) = false := by
        rw [hlast]
        have e48 : (48 : UInt8).toNat = 48 := rfl
        simp
        intro h
        apply ha'
        apply UInt8.toNat.inj
        omega
      have hfT : fracT v 9 = 46 :: (l' ++ [a']) := by
        unfold fracT
        rw [← hl, stripz_snoc _ _ ha', if_neg (by simp)]
      have HQ := Lib.hid (And.intro hX hfT)
      have GL := Lib.hid hbel
      clear hX hl hlp hbel ha' hlast hfT
      go_wp2
      go_ret
      refine ⟨ret_str ?_, GL.out⟩
      rw [HQ.out.1, HT1.out, HT2.out, HT3.out, HT4.out, HT5.out, HT6.out]
      unfold fullT stampT zoneT
      rw [if_pos rfl, HQ.out.2, if_pos HZ.out.2]
      apply ByteArray.ext
      simp

set_option maxRecDepth 100000 in
set_option maxHeartbeats 2000000 in
theorem stamp_nano_utc_high (ns Q R off m : Int) (h : ns = 1000000000 * Q + R) (v : Nat) (hv : R = (v : Int)) (hv1 : v ≤ 999999999) (n0 : -9223372036854775808 ≤ ns) (n1 : ns ≤ 9223372036854775807) (hm0 : -840 ≤ m) (hm1 : m ≤ 840) (hoff : off = 60 * m) (E n s : Nat) (hQ : Q + off = 86400 * (146097 * (E : Int) + (n : Int) - 719468) + (s : Int)) (hE : E ≤ 10) (hn : n < 146097) (hs : s < 86400) (hz : m = 0) (hvz : 1 ≤ v) (hmp : 10 ≤ mpOf n) (w : World) :
    Calls Tryd.prog 19 #[.int .i64 ns, .int .i64 off, .bool true] w fun e w' => e = .returned (.string ⟨(fullT E n s v m true).toArray⟩) ∧ Below w.heap.size w w' := by
  have q0 : -9223372037 ≤ Q := by omega
  have q1 : Q ≤ 9223372036 := by omega
  have eR : ns - Q * 1000000000 = R := by omega
  have r0 : 0 ≤ R := by omega
  have r1 : R ≤ 999999999 := by omega
  have o0 : -50400 ≤ off := by omega
  have o1 : off ≤ 50400 := by omega
  obtain ⟨S, hS⟩ : ∃ S : Int, Q + off = S := ⟨_, rfl⟩
  have s0 : -9223500000 ≤ S := by omega
  have s1 : S ≤ 9223500000 := by omega
  obtain ⟨D, hD⟩ : ∃ D : Int, D = 146097 * (E : Int) + (n : Int) - 719468 := ⟨_, rfl⟩
  have hD2 : D = S / 86400 := by omega
  obtain ⟨z, hzz⟩ : ∃ z : Int, z = (s : Int) := ⟨_, rfl⟩
  have eZ : S - D * 86400 = z := by omega
  have z0 : 0 ≤ z := by omega
  have z1 : z ≤ 86399 := by omega
  have d0 : -120000 ≤ D := by omega
  have d1 : D ≤ 120000 := by omega
  obtain ⟨N2, eN2⟩ : ∃ N2 : Int, D + 719468 = N2 := ⟨_, rfl⟩
  obtain ⟨F, hF⟩ : ∃ F : Int, F = (E : Int) := ⟨_, rfl⟩
  have hF2 : F = N2 / 146097 := by omega
  obtain ⟨x, hx⟩ : ∃ x : Int, x = (n : Int) := ⟨_, rfl⟩
  have eX : N2 - F * 146097 = x := by omega
  have x0 : 0 ≤ x := by omega
  have x1 : x ≤ 146096 := by omega
  have f0 : 0 ≤ F := by omega
  have f1 : F ≤ 10 := by omega
  have N0 : 0 ≤ N2 := by omega
  have N1 : N2 ≤ 2000000 := by omega
  obtain ⟨j1, j2, j3, j4, j5⟩ := stamp_parts E n hn
  obtain ⟨Y0, hY0⟩ : ∃ Y0 : Int, Y0 = ((100 * cOf n + cyOf n : Nat) : Int) := ⟨_, rfl⟩
  obtain ⟨I, hI⟩ : ∃ I : Int, I = (ydOf n : Int) := ⟨_, rfl⟩
  obtain ⟨P, hP⟩ : ∃ P : Int, P = (mpOf n : Int) := ⟨_, rfl⟩
  obtain ⟨DY, hDY⟩ : ∃ DY : Int, DY = (dayN n : Int) := ⟨_, rfl⟩
  have eY : (x - x / 1460 + x / 36524 - x / 146096) / 365 = Y0 := by rw [hx, hY0, ← j1]; omega
  have y0 : 0 ≤ Y0 := by omega
  have y1 : Y0 ≤ 399 := by omega
  have eI : x - (365 * Y0 + Y0 / 4 - Y0 / 100) = I := by rw [hx, hY0, hI]; omega
  have i0 : 0 ≤ I := by omega
  have i1 : I ≤ 365 := by omega
  have eP : (5 * I + 2) / 153 = P := by rw [hI, hP]; unfold mpOf; omega
  have p0 : 0 ≤ P := by omega
  have p1 : P ≤ 11 := by omega
  have eD : I - (153 * P + 2) / 5 + 1 = DY := by rw [hI, hP, hDY]; omega
  have hwR : wrap64 (ns - wrap64 (Q * 1000000000)) = R := by
    unfold wrap64; omega
  have hbnd : yearN E n ≤ 9999 ∧ monthN n ≤ 99 ∧ dayN n ≤ 99 := ⟨year_le E n hE hn, (month_le n hn).1, (month_le n hn).2⟩
  have yl : yearN E n = 400 * E + (100 * cOf n + cyOf n) + 1 := by unfold yearN; rw [if_pos (by omega)]
  have ml : monthN n = mpOf n - 9 := by unfold monthN; rw [if_pos (by omega)]
  have pl : 10 ≤ P := by omega
  have ho : off = 0 := by omega
  have rz : 1 ≤ R := by omega
  obtain ⟨T1, hT1, hp1⟩ := named (padT (yearN E n) 4) (padT_length _ _ (by decide) (by have := hbnd; omega))
  have HT1 := Lib.hid hT1
  clear hT1
  obtain ⟨T2, hT2, hp2⟩ := named (padT (monthN n) 2) (padT_length _ _ (by decide) (by have := hbnd; omega))
  have HT2 := Lib.hid hT2
  clear hT2
  obtain ⟨T3, hT3, hp3⟩ := named (padT (dayN n) 2) (padT_length _ _ (by decide) (by have := hbnd; omega))
  have HT3 := Lib.hid hT3
  clear hT3
  obtain ⟨T4, hT4, hp4⟩ := named (padT (s / 3600) 2) (padT_length _ _ (by decide) (by have := hbnd; omega))
  have HT4 := Lib.hid hT4
  clear hT4
  obtain ⟨T5, hT5, hp5⟩ := named (padT (s / 60 % 60) 2) (padT_length _ _ (by decide) (by have := hbnd; omega))
  have HT5 := Lib.hid hT5
  clear hT5
  obtain ⟨T6, hT6, hp6⟩ := named (padT (s % 60) 2) (padT_length _ _ (by decide) (by have := hbnd; omega))
  have HT6 := Lib.hid hT6
  clear hT6
  obtain ⟨T7, hT7, hp7⟩ := named (padT (v) 9) (padT_length _ _ (by decide) (by have := hbnd; omega))
  have HT7 := Lib.hid hT7
  clear hT7
  have HP := Lib.hid (And.intro hY0 (And.intro hI (And.intro hP (And.intro hDY (And.intro yl (And.intro ml (And.intro hbnd hmp)))))))
  clear hY0 hI hP hDY yl ml hbnd hmp j1 j2 j3 j4 j5
  have HA := Lib.hid (And.intro h (And.intro hv (And.intro hv1 (And.intro hoff (And.intro hE (And.intro hn (And.intro hs hQ)))))))
  have HD := Lib.hid (And.intro hD (And.intro hD2 (And.intro hzz (And.intro hF (And.intro hF2 hx)))))
  clear h hv hv1 hoff hE hn hs hQ hD hD2 hzz hF hF2 hx
  have HZ := Lib.hid (And.intro ho hz)
  clear hz hm0 hm1
  subst ho
  have HF := Lib.hid (show fracs v 9 ≠ [] from fracs_ne (by have := HA.out; omega))
  go_enter Tryd.func19, Tryd.ntmps19
  go_wp2_with (first
    | (have _ := G6; go_at_call 30; refine (padded_t T7 (v) 9 _ _ HT7.out (by have := HA.out; omega) (by decide) (by have := HA.out; omega) (by decide) _).mono ?_; rintro e w7 ⟨rfl, hb7⟩; have G7 := Lib.hid ((G6.out.trans (hb7.mono G6.out.size))); clear hb7)
    | (have _ := G5; go_at_call 30; refine (padded_t T6 (s % 60) 2 _ _ HT6.out (by have := HP.out; have := HD.out; have := HA.out; omega) (by decide) (by have := HP.out; have := HD.out; have := HA.out; omega) (by decide) _).mono ?_; rintro e w6 ⟨rfl, hb6⟩; have G6 := Lib.hid ((G5.out.trans (hb6.mono G5.out.size))); clear hb6)
    | (have _ := G4; go_at_call 30; refine (padded_t T5 (s / 60 % 60) 2 _ _ HT5.out (by have := HP.out; have := HD.out; have := HA.out; omega) (by decide) (by have := HP.out; have := HD.out; have := HA.out; omega) (by decide) _).mono ?_; rintro e w5 ⟨rfl, hb5⟩; have G5 := Lib.hid ((G4.out.trans (hb5.mono G4.out.size))); clear hb5)
    | (have _ := G3; go_at_call 30; refine (padded_t T4 (s / 3600) 2 _ _ HT4.out (by have := HP.out; have := HD.out; have := HA.out; omega) (by decide) (by have := HP.out; have := HD.out; have := HA.out; omega) (by decide) _).mono ?_; rintro e w4 ⟨rfl, hb4⟩; have G4 := Lib.hid ((G3.out.trans (hb4.mono G3.out.size))); clear hb4)
    | (have _ := G2; go_at_call 30; refine (padded_t T3 (dayN n) 2 _ _ HT3.out (by have := HP.out; have := HD.out; have := HA.out; omega) (by decide) (by have := HP.out; have := HD.out; have := HA.out; omega) (by decide) _).mono ?_; rintro e w3 ⟨rfl, hb3⟩; have G3 := Lib.hid ((G2.out.trans (hb3.mono G2.out.size))); clear hb3)
    | (have _ := G1; go_at_call 30; refine (padded_t T2 (monthN n) 2 _ _ HT2.out (by have := HP.out; have := HD.out; have := HA.out; omega) (by decide) (by have := HP.out; have := HD.out; have := HA.out; omega) (by decide) _).mono ?_; rintro e w2 ⟨rfl, hb2⟩; have G2 := Lib.hid ((G1.out.trans (hb2.mono G1.out.size))); clear hb2)
    | (have _ := g3; go_at_call 30; refine (padded_t T1 (yearN E n) 4 _ _ HT1.out (by have := HP.out; have := HD.out; have := HA.out; omega) (by decide) (by have := HP.out; have := HD.out; have := HA.out; omega) (by decide) _).mono ?_; rintro e w1 ⟨rfl, hb1⟩; have G1 := Lib.hid (hb1); clear hb1)
    | (have _ := g2; go_at_call 40; refine (floor_146097 N2 F HD.out.2.2.2.2.1 (by omega) (by omega) _).mono ?_; rintro e wf ⟨rfl, hwf⟩; have hwf2 := hwf.symm; clear hwf; subst hwf2; have g3 := True.intro)
    | (have _ := g1; go_at_call 40; refine (floor_86400 S D HD.out.2.1 (by omega) (by omega) _).mono ?_; rintro e wf ⟨rfl, hwf⟩; have hwf2 := hwf.symm; clear hwf; subst hwf2; have g2 := True.intro)
    | (go_at_call 40; refine (floor_1000000000 ns Q (by have := HA.out; omega) n0 n1 _).mono ?_; rintro e wf ⟨rfl, hwf⟩; have hwf2 := hwf.symm; clear hwf; subst hwf2; have g1 := True.intro))
  go_loopw [17] (fun f wr => ∃ (l : List UInt8) (X : ByteArray), f = .string X ∧ X = ⟨l.toArray⟩ ∧ stripz l = fracs v 9 ∧ l.length ≤ 9 ∧ Below w.heap.size w wr) (fun f _ => strLen f)
  case atStart => exact ⟨padT v 9, _, rfl, by rw [HT7.out], by rw [padT_eq 8 v (by have := HA.out; omega), stripz_fracs], by rw [padT_eq 8 v (by have := HA.out; omega), padz_length]; decide, G7.out⟩
  case round =>
    obtain ⟨l, X, rfl, hX, hl, hlp, hbel⟩ := hrel
    obtain ⟨l', a', rfl⟩ := last_of l (by rw [hl]; exact HF.out)
    have hsz : X.size = l'.length + 1 := by rw [hX, arr_size]; simp
    have hs1 : 1 ≤ X.size := by omega
    have hs2 : X.size ≤ 9 := by (simp at hlp); omega
    have hlast : X[l'.length]'(by omega) = a' := by
      subst hX
      show (l' ++ [a']).toArray[l'.length]'_ = a'
      simp
    by_cases ha' : a' = 48
    · have hb48 : (X[l'.length]'(by omega)).toNat = 48 := by rw [hlast, ha']; rfl
      have hx' : X.extract 0 l'.length = ⟨l'.toArray⟩ := by
        apply ByteArray.ext
        rw [hX]
        simp
      have HQ := Lib.hid (And.intro hX (And.intro hl (And.intro hlp (And.intro hbel (And.intro ha' (And.intro hlast hx'))))))
      clear hX hl hlp hbel ha' hlast hx'
      go_wp2
      go_roundw
      case rel => exact ⟨l', _, rfl, HQ.out.2.2.2.2.2.2, by rw [← HQ.out.2.1, HQ.out.2.2.2.2.1, stripz_snoc0], by have := HQ.out.2.2.1; simp at this; omega, HQ.out.2.2.2.1⟩
      case measure => simp [strLen]; omega
    · have hb48 : (((X[l'.length]'(by omega)).toNat : Int) == 48) = false := by
        rw [hlast]
        have e48 : (48 : UInt8).toNat = 48 := rfl
        simp
        intro h
        apply ha'
        apply UInt8.toNat.inj
        omega
      have hfT : fracT v 9 = 46 :: (l' ++ [a']) := by
        unfold fracT
        rw [← hl, stripz_snoc _ _ ha', if_neg (by simp)]
      have HQ := Lib.hid (And.intro hX hfT)
      have GL := Lib.hid hbel
      clear hX hl hlp hbel ha' hlast hfT
      go_wp2
      go_ret
      refine ⟨ret_str ?_, GL.out⟩
      rw [HQ.out.1, HT1.out, HT2.out, HT3.out, HT4.out, HT5.out, HT6.out]
      unfold fullT stampT zoneT
      rw [if_pos rfl, HQ.out.2, if_pos HZ.out.2]
      apply ByteArray.ext
      simp

set_option maxRecDepth 100000 in
set_option maxHeartbeats 2000000 in
theorem stamp_nano_east_low (ns Q R off m : Int) (h : ns = 1000000000 * Q + R) (v : Nat) (hv : R = (v : Int)) (hv1 : v ≤ 999999999) (n0 : -9223372036854775808 ≤ ns) (n1 : ns ≤ 9223372036854775807) (hm0 : -840 ≤ m) (hm1 : m ≤ 840) (hoff : off = 60 * m) (E n s : Nat) (hQ : Q + off = 86400 * (146097 * (E : Int) + (n : Int) - 719468) + (s : Int)) (hE : E ≤ 10) (hn : n < 146097) (hs : s < 86400) (hz : 1 ≤ m) (hvz : 1 ≤ v) (hmp : mpOf n ≤ 9) (w : World) :
    Calls Tryd.prog 19 #[.int .i64 ns, .int .i64 off, .bool true] w fun e w' => e = .returned (.string ⟨(fullT E n s v m true).toArray⟩) ∧ Below w.heap.size w w' := by
  have q0 : -9223372037 ≤ Q := by omega
  have q1 : Q ≤ 9223372036 := by omega
  have eR : ns - Q * 1000000000 = R := by omega
  have r0 : 0 ≤ R := by omega
  have r1 : R ≤ 999999999 := by omega
  have o0 : -50400 ≤ off := by omega
  have o1 : off ≤ 50400 := by omega
  obtain ⟨S, hS⟩ : ∃ S : Int, Q + off = S := ⟨_, rfl⟩
  have s0 : -9223500000 ≤ S := by omega
  have s1 : S ≤ 9223500000 := by omega
  obtain ⟨D, hD⟩ : ∃ D : Int, D = 146097 * (E : Int) + (n : Int) - 719468 := ⟨_, rfl⟩
  have hD2 : D = S / 86400 := by omega
  obtain ⟨z, hzz⟩ : ∃ z : Int, z = (s : Int) := ⟨_, rfl⟩
  have eZ : S - D * 86400 = z := by omega
  have z0 : 0 ≤ z := by omega
  have z1 : z ≤ 86399 := by omega
  have d0 : -120000 ≤ D := by omega
  have d1 : D ≤ 120000 := by omega
  obtain ⟨N2, eN2⟩ : ∃ N2 : Int, D + 719468 = N2 := ⟨_, rfl⟩
  obtain ⟨F, hF⟩ : ∃ F : Int, F = (E : Int) := ⟨_, rfl⟩
  have hF2 : F = N2 / 146097 := by omega
  obtain ⟨x, hx⟩ : ∃ x : Int, x = (n : Int) := ⟨_, rfl⟩
  have eX : N2 - F * 146097 = x := by omega
  have x0 : 0 ≤ x := by omega
  have x1 : x ≤ 146096 := by omega
  have f0 : 0 ≤ F := by omega
  have f1 : F ≤ 10 := by omega
  have N0 : 0 ≤ N2 := by omega
  have N1 : N2 ≤ 2000000 := by omega
  obtain ⟨j1, j2, j3, j4, j5⟩ := stamp_parts E n hn
  obtain ⟨Y0, hY0⟩ : ∃ Y0 : Int, Y0 = ((100 * cOf n + cyOf n : Nat) : Int) := ⟨_, rfl⟩
  obtain ⟨I, hI⟩ : ∃ I : Int, I = (ydOf n : Int) := ⟨_, rfl⟩
  obtain ⟨P, hP⟩ : ∃ P : Int, P = (mpOf n : Int) := ⟨_, rfl⟩
  obtain ⟨DY, hDY⟩ : ∃ DY : Int, DY = (dayN n : Int) := ⟨_, rfl⟩
  have eY : (x - x / 1460 + x / 36524 - x / 146096) / 365 = Y0 := by rw [hx, hY0, ← j1]; omega
  have y0 : 0 ≤ Y0 := by omega
  have y1 : Y0 ≤ 399 := by omega
  have eI : x - (365 * Y0 + Y0 / 4 - Y0 / 100) = I := by rw [hx, hY0, hI]; omega
  have i0 : 0 ≤ I := by omega
  have i1 : I ≤ 365 := by omega
  have eP : (5 * I + 2) / 153 = P := by rw [hI, hP]; unfold mpOf; omega
  have p0 : 0 ≤ P := by omega
  have p1 : P ≤ 11 := by omega
  have eD : I - (153 * P + 2) / 5 + 1 = DY := by rw [hI, hP, hDY]; omega
  have hwR : wrap64 (ns - wrap64 (Q * 1000000000)) = R := by
    unfold wrap64; omega
  have hbnd : yearN E n ≤ 9999 ∧ monthN n ≤ 99 ∧ dayN n ≤ 99 := ⟨year_le E n hE hn, (month_le n hn).1, (month_le n hn).2⟩
  have yl : yearN E n = 400 * E + (100 * cOf n + cyOf n) := by unfold yearN; rw [if_neg (by omega), Nat.add_zero]
  have ml : monthN n = mpOf n + 3 := by unfold monthN; rw [if_neg (by omega)]
  have pl : P < 10 := by omega
  have oz : (off == 0) = false := by simp; omega
  obtain ⟨a, ha⟩ : ∃ a, a = m.natAbs := ⟨_, rfl⟩
  have hal : a ≤ 840 ∧ 1 ≤ a := by omega
  obtain ⟨B, hB⟩ : ∃ B : Int, B = 60 * (a : Int) := ⟨_, rfl⟩
  have ho : off = B := by omega
  have b0 : 60 ≤ B := by omega
  have b1 : B ≤ 50400 := by omega
  have on : 0 < off := by omega
  have rz : 1 ≤ R := by omega
  obtain ⟨T1, hT1, hp1⟩ := named (padT (yearN E n) 4) (padT_length _ _ (by decide) (by have := hbnd; omega))
  have HT1 := Lib.hid hT1
  clear hT1
  obtain ⟨T2, hT2, hp2⟩ := named (padT (monthN n) 2) (padT_length _ _ (by decide) (by have := hbnd; omega))
  have HT2 := Lib.hid hT2
  clear hT2
  obtain ⟨T3, hT3, hp3⟩ := named (padT (dayN n) 2) (padT_length _ _ (by decide) (by have := hbnd; omega))
  have HT3 := Lib.hid hT3
  clear hT3
  obtain ⟨T4, hT4, hp4⟩ := named (padT (s / 3600) 2) (padT_length _ _ (by decide) (by have := hbnd; omega))
  have HT4 := Lib.hid hT4
  clear hT4
  obtain ⟨T5, hT5, hp5⟩ := named (padT (s / 60 % 60) 2) (padT_length _ _ (by decide) (by have := hbnd; omega))
  have HT5 := Lib.hid hT5
  clear hT5
  obtain ⟨T6, hT6, hp6⟩ := named (padT (s % 60) 2) (padT_length _ _ (by decide) (by have := hbnd; omega))
  have HT6 := Lib.hid hT6
  clear hT6
  obtain ⟨T7, hT7, hp7⟩ := named (padT (v) 9) (padT_length _ _ (by decide) (by have := hbnd; omega))
  have HT7 := Lib.hid hT7
  clear hT7
  obtain ⟨T8, hT8, hp8⟩ := named (padT (a / 60) 2) (padT_length _ _ (by decide) (by have := hbnd; omega))
  have HT8 := Lib.hid hT8
  clear hT8
  obtain ⟨T9, hT9, hp9⟩ := named (padT (a % 60) 2) (padT_length _ _ (by decide) (by have := hbnd; omega))
  have HT9 := Lib.hid hT9
  clear hT9
  have HP := Lib.hid (And.intro hY0 (And.intro hI (And.intro hP (And.intro hDY (And.intro yl (And.intro ml (And.intro hbnd hmp)))))))
  clear hY0 hI hP hDY yl ml hbnd hmp j1 j2 j3 j4 j5
  have HA := Lib.hid (And.intro h (And.intro hv (And.intro hv1 (And.intro hoff (And.intro hE (And.intro hn (And.intro hs hQ)))))))
  have HD := Lib.hid (And.intro hD (And.intro hD2 (And.intro hzz (And.intro hF (And.intro hF2 hx)))))
  clear h hv hv1 hoff hE hn hs hQ hD hD2 hzz hF hF2 hx
  have HZ := Lib.hid (And.intro ha (And.intro hal (And.intro hB (And.intro ho hz))))
  clear ha hal hB ho hz hm0 hm1
  have HF := Lib.hid (show fracs v 9 ≠ [] from fracs_ne (by have := HA.out; omega))
  go_enter Tryd.func19, Tryd.ntmps19
  go_wp2_with (first
    | (have _ := G6; go_at_call 30; refine (padded_t T7 (v) 9 _ _ HT7.out (by have := HA.out; omega) (by decide) (by have := HA.out; omega) (by decide) _).mono ?_; rintro e w7 ⟨rfl, hb7⟩; have G7 := Lib.hid ((G6.out.trans (hb7.mono G6.out.size))); clear hb7)
    | (have _ := G5; go_at_call 30; refine (padded_t T6 (s % 60) 2 _ _ HT6.out (by have := HP.out; have := HD.out; have := HA.out; omega) (by decide) (by have := HP.out; have := HD.out; have := HA.out; omega) (by decide) _).mono ?_; rintro e w6 ⟨rfl, hb6⟩; have G6 := Lib.hid ((G5.out.trans (hb6.mono G5.out.size))); clear hb6)
    | (have _ := G4; go_at_call 30; refine (padded_t T5 (s / 60 % 60) 2 _ _ HT5.out (by have := HP.out; have := HD.out; have := HA.out; omega) (by decide) (by have := HP.out; have := HD.out; have := HA.out; omega) (by decide) _).mono ?_; rintro e w5 ⟨rfl, hb5⟩; have G5 := Lib.hid ((G4.out.trans (hb5.mono G4.out.size))); clear hb5)
    | (have _ := G3; go_at_call 30; refine (padded_t T4 (s / 3600) 2 _ _ HT4.out (by have := HP.out; have := HD.out; have := HA.out; omega) (by decide) (by have := HP.out; have := HD.out; have := HA.out; omega) (by decide) _).mono ?_; rintro e w4 ⟨rfl, hb4⟩; have G4 := Lib.hid ((G3.out.trans (hb4.mono G3.out.size))); clear hb4)
    | (have _ := G2; go_at_call 30; refine (padded_t T3 (dayN n) 2 _ _ HT3.out (by have := HP.out; have := HD.out; have := HA.out; omega) (by decide) (by have := HP.out; have := HD.out; have := HA.out; omega) (by decide) _).mono ?_; rintro e w3 ⟨rfl, hb3⟩; have G3 := Lib.hid ((G2.out.trans (hb3.mono G2.out.size))); clear hb3)
    | (have _ := G1; go_at_call 30; refine (padded_t T2 (monthN n) 2 _ _ HT2.out (by have := HP.out; have := HD.out; have := HA.out; omega) (by decide) (by have := HP.out; have := HD.out; have := HA.out; omega) (by decide) _).mono ?_; rintro e w2 ⟨rfl, hb2⟩; have G2 := Lib.hid ((G1.out.trans (hb2.mono G1.out.size))); clear hb2)
    | (have _ := g3; go_at_call 30; refine (padded_t T1 (yearN E n) 4 _ _ HT1.out (by have := HP.out; have := HD.out; have := HA.out; omega) (by decide) (by have := HP.out; have := HD.out; have := HA.out; omega) (by decide) _).mono ?_; rintro e w1 ⟨rfl, hb1⟩; have G1 := Lib.hid (hb1); clear hb1)
    | (have _ := g2; go_at_call 40; refine (floor_146097 N2 F HD.out.2.2.2.2.1 (by omega) (by omega) _).mono ?_; rintro e wf ⟨rfl, hwf⟩; have hwf2 := hwf.symm; clear hwf; subst hwf2; have g3 := True.intro)
    | (have _ := g1; go_at_call 40; refine (floor_86400 S D HD.out.2.1 (by omega) (by omega) _).mono ?_; rintro e wf ⟨rfl, hwf⟩; have hwf2 := hwf.symm; clear hwf; subst hwf2; have g2 := True.intro)
    | (go_at_call 40; refine (floor_1000000000 ns Q (by have := HA.out; omega) n0 n1 _).mono ?_; rintro e wf ⟨rfl, hwf⟩; have hwf2 := hwf.symm; clear hwf; subst hwf2; have g1 := True.intro))
  go_loopw [17] (fun f wr => ∃ (l : List UInt8) (X : ByteArray), f = .string X ∧ X = ⟨l.toArray⟩ ∧ stripz l = fracs v 9 ∧ l.length ≤ 9 ∧ Below w.heap.size w wr) (fun f _ => strLen f)
  case atStart => exact ⟨padT v 9, _, rfl, by rw [HT7.out], by rw [padT_eq 8 v (by have := HA.out; omega), stripz_fracs], by rw [padT_eq 8 v (by have := HA.out; omega), padz_length]; decide, G7.out⟩
  case round =>
    obtain ⟨l, X, rfl, hX, hl, hlp, hbel⟩ := hrel
    obtain ⟨l', a', rfl⟩ := last_of l (by rw [hl]; exact HF.out)
    have hsz : X.size = l'.length + 1 := by rw [hX, arr_size]; simp
    have hs1 : 1 ≤ X.size := by omega
    have hs2 : X.size ≤ 9 := by (simp at hlp); omega
    have hlast : X[l'.length]'(by omega) = a' := by
      subst hX
      show (l' ++ [a']).toArray[l'.length]'_ = a'
      simp
    by_cases ha' : a' = 48
    · have hb48 : (X[l'.length]'(by omega)).toNat = 48 := by rw [hlast, ha']; rfl
      have hx' : X.extract 0 l'.length = ⟨l'.toArray⟩ := by
        apply ByteArray.ext
        rw [hX]
        simp
      have HQ := Lib.hid (And.intro hX (And.intro hl (And.intro hlp (And.intro hbel (And.intro ha' (And.intro hlast hx'))))))
      clear hX hl hlp hbel ha' hlast hx'
      go_wp2
      go_roundw
      case rel => exact ⟨l', _, rfl, HQ.out.2.2.2.2.2.2, by rw [← HQ.out.2.1, HQ.out.2.2.2.2.1, stripz_snoc0], by have := HQ.out.2.2.1; simp at this; omega, HQ.out.2.2.2.1⟩
      case measure => simp [strLen]; omega
    · have hb48 : (((X[l'.length]'(by omega)).toNat : Int) == 48) = false := by
        rw [hlast]
        have e48 : (48 : UInt8).toNat = 48 := rfl
        simp
        intro h
        apply ha'
        apply UInt8.toNat.inj
        omega
      have hfT : fracT v 9 = 46 :: (l' ++ [a']) := by
        unfold fracT
        rw [← hl, stripz_snoc _ _ ha', if_neg (by simp)]
      have HQ := Lib.hid (And.intro hX hfT)
      have GL := Lib.hid hbel
      clear hX hl hlp hbel ha' hlast hfT
      go_wp2_with (first
        | (have _ := G8; go_at_call 30; refine (padded_t T9 (a % 60) 2 _ _ HT9.out (by have := HZ.out; omega) (by decide) (by have := HZ.out; omega) (by decide) _).mono ?_; rintro e w9 ⟨rfl, hb9⟩; have G9 := Lib.hid ((G8.out.trans (hb9.mono G8.out.size))); clear hb9)
        | (have _ := GL; go_at_call 30; refine (padded_t T8 (a / 60) 2 _ _ HT8.out (by have := HZ.out; omega) (by decide) (by have := HZ.out; omega) (by decide) _).mono ?_; rintro e w8 ⟨rfl, hb8⟩; have G8 := Lib.hid ((GL.out.trans (hb8.mono GL.out.size))); clear hb8))
      go_ret
      refine ⟨ret_str ?_, G9.out⟩
      rw [HQ.out.1, HT1.out, HT2.out, HT3.out, HT4.out, HT5.out, HT6.out, HT8.out, HT9.out]
      unfold fullT stampT zoneT
      rw [if_pos rfl, HQ.out.2, if_neg (show ¬ m = 0 by have := HZ.out; omega), if_neg (show ¬ m < 0 by have := HZ.out; omega), ← HZ.out.1]
      apply ByteArray.ext
      simp

set_option maxRecDepth 100000 in
set_option maxHeartbeats 2000000 in
theorem stamp_nano_east_high (ns Q R off m : Int) (h : ns = 1000000000 * Q + R) (v : Nat) (hv : R = (v : Int)) (hv1 : v ≤ 999999999) (n0 : -9223372036854775808 ≤ ns) (n1 : ns ≤ 9223372036854775807) (hm0 : -840 ≤ m) (hm1 : m ≤ 840) (hoff : off = 60 * m) (E n s : Nat) (hQ : Q + off = 86400 * (146097 * (E : Int) + (n : Int) - 719468) + (s : Int)) (hE : E ≤ 10) (hn : n < 146097) (hs : s < 86400) (hz : 1 ≤ m) (hvz : 1 ≤ v) (hmp : 10 ≤ mpOf n) (w : World) :
    Calls Tryd.prog 19 #[.int .i64 ns, .int .i64 off, .bool true] w fun e w' => e = .returned (.string ⟨(fullT E n s v m true).toArray⟩) ∧ Below w.heap.size w w' := by
  have q0 : -9223372037 ≤ Q := by omega
  have q1 : Q ≤ 9223372036 := by omega
  have eR : ns - Q * 1000000000 = R := by omega
  have r0 : 0 ≤ R := by omega
  have r1 : R ≤ 999999999 := by omega
  have o0 : -50400 ≤ off := by omega
  have o1 : off ≤ 50400 := by omega
  obtain ⟨S, hS⟩ : ∃ S : Int, Q + off = S := ⟨_, rfl⟩
  have s0 : -9223500000 ≤ S := by omega
  have s1 : S ≤ 9223500000 := by omega
  obtain ⟨D, hD⟩ : ∃ D : Int, D = 146097 * (E : Int) + (n : Int) - 719468 := ⟨_, rfl⟩
  have hD2 : D = S / 86400 := by omega
  obtain ⟨z, hzz⟩ : ∃ z : Int, z = (s : Int) := ⟨_, rfl⟩
  have eZ : S - D * 86400 = z := by omega
  have z0 : 0 ≤ z := by omega
  have z1 : z ≤ 86399 := by omega
  have d0 : -120000 ≤ D := by omega
  have d1 : D ≤ 120000 := by omega
  obtain ⟨N2, eN2⟩ : ∃ N2 : Int, D + 719468 = N2 := ⟨_, rfl⟩
  obtain ⟨F, hF⟩ : ∃ F : Int, F = (E : Int) := ⟨_, rfl⟩
  have hF2 : F = N2 / 146097 := by omega
  obtain ⟨x, hx⟩ : ∃ x : Int, x = (n : Int) := ⟨_, rfl⟩
  have eX : N2 - F * 146097 = x := by omega
  have x0 : 0 ≤ x := by omega
  have x1 : x ≤ 146096 := by omega
  have f0 : 0 ≤ F := by omega
  have f1 : F ≤ 10 := by omega
  have N0 : 0 ≤ N2 := by omega
  have N1 : N2 ≤ 2000000 := by omega
  obtain ⟨j1, j2, j3, j4, j5⟩ := stamp_parts E n hn
  obtain ⟨Y0, hY0⟩ : ∃ Y0 : Int, Y0 = ((100 * cOf n + cyOf n : Nat) : Int) := ⟨_, rfl⟩
  obtain ⟨I, hI⟩ : ∃ I : Int, I = (ydOf n : Int) := ⟨_, rfl⟩
  obtain ⟨P, hP⟩ : ∃ P : Int, P = (mpOf n : Int) := ⟨_, rfl⟩
  obtain ⟨DY, hDY⟩ : ∃ DY : Int, DY = (dayN n : Int) := ⟨_, rfl⟩
  have eY : (x - x / 1460 + x / 36524 - x / 146096) / 365 = Y0 := by rw [hx, hY0, ← j1]; omega
  have y0 : 0 ≤ Y0 := by omega
  have y1 : Y0 ≤ 399 := by omega
  have eI : x - (365 * Y0 + Y0 / 4 - Y0 / 100) = I := by rw [hx, hY0, hI]; omega
  have i0 : 0 ≤ I := by omega
  have i1 : I ≤ 365 := by omega
  have eP : (5 * I + 2) / 153 = P := by rw [hI, hP]; unfold mpOf; omega
  have p0 : 0 ≤ P := by omega
  have p1 : P ≤ 11 := by omega
  have eD : I - (153 * P + 2) / 5 + 1 = DY := by rw [hI, hP, hDY]; omega
  have hwR : wrap64 (ns - wrap64 (Q * 1000000000)) = R := by
    unfold wrap64; omega
  have hbnd : yearN E n ≤ 9999 ∧ monthN n ≤ 99 ∧ dayN n ≤ 99 := ⟨year_le E n hE hn, (month_le n hn).1, (month_le n hn).2⟩
  have yl : yearN E n = 400 * E + (100 * cOf n + cyOf n) + 1 := by unfold yearN; rw [if_pos (by omega)]
  have ml : monthN n = mpOf n - 9 := by unfold monthN; rw [if_pos (by omega)]
  have pl : 10 ≤ P := by omega
  have oz : (off == 0) = false := by simp; omega
  obtain ⟨a, ha⟩ : ∃ a, a = m.natAbs := ⟨_, rfl⟩
  have hal : a ≤ 840 ∧ 1 ≤ a := by omega
  obtain ⟨B, hB⟩ : ∃ B : Int, B = 60 * (a : Int) := ⟨_, rfl⟩
  have ho : off = B := by omega
  have b0 : 60 ≤ B := by omega
  have b1 : B ≤ 50400 := by omega
  have on : 0 < off := by omega
  have rz : 1 ≤ R := by omega
  obtain ⟨T1, hT1, hp1⟩ := named (padT (yearN E n) 4) (padT_length _ _ (by decide) (by have := hbnd; omega))
  have HT1 := Lib.hid hT1
  clear hT1
  obtain ⟨T2, hT2, hp2⟩ := named (padT (monthN n) 2) (padT_length _ _ (by decide) (by have := hbnd; omega))
  have HT2 := Lib.hid hT2
  clear hT2
  obtain ⟨T3, hT3, hp3⟩ := named (padT (dayN n) 2) (padT_length _ _ (by decide) (by have := hbnd; omega))
  have HT3 := Lib.hid hT3
  clear hT3
  obtain ⟨T4, hT4, hp4⟩ := named (padT (s / 3600) 2) (padT_length _ _ (by decide) (by have := hbnd; omega))
  have HT4 := Lib.hid hT4
  clear hT4
  obtain ⟨T5, hT5, hp5⟩ := named (padT (s / 60 % 60) 2) (padT_length _ _ (by decide) (by have := hbnd; omega))
  have HT5 := Lib.hid hT5
  clear hT5
  obtain ⟨T6, hT6, hp6⟩ := named (padT (s % 60) 2) (padT_length _ _ (by decide) (by have := hbnd; omega))
  have HT6 := Lib.hid hT6
  clear hT6
  obtain ⟨T7, hT7, hp7⟩ := named (padT (v) 9) (padT_length _ _ (by decide) (by have := hbnd; omega))
  have HT7 := Lib.hid hT7
  clear hT7
  obtain ⟨T8, hT8, hp8⟩ := named (padT (a / 60) 2) (padT_length _ _ (by decide) (by have := hbnd; omega))
  have HT8 := Lib.hid hT8
  clear hT8
  obtain ⟨T9, hT9, hp9⟩ := named (padT (a % 60) 2) (padT_length _ _ (by decide) (by have := hbnd; omega))
  have HT9 := Lib.hid hT9
  clear hT9
  have HP := Lib.hid (And.intro hY0 (And.intro hI (And.intro hP (And.intro hDY (And.intro yl (And.intro ml (And.intro hbnd hmp)))))))
  clear hY0 hI hP hDY yl ml hbnd hmp j1 j2 j3 j4 j5
  have HA := Lib.hid (And.intro h (And.intro hv (And.intro hv1 (And.intro hoff (And.intro hE (And.intro hn (And.intro hs hQ)))))))
  have HD := Lib.hid (And.intro hD (And.intro hD2 (And.intro hzz (And.intro hF (And.intro hF2 hx)))))
  clear h hv hv1 hoff hE hn hs hQ hD hD2 hzz hF hF2 hx
  have HZ := Lib.hid (And.intro ha (And.intro hal (And.intro hB (And.intro ho hz))))
  clear ha hal hB ho hz hm0 hm1
  have HF := Lib.hid (show fracs v 9 ≠ [] from fracs_ne (by have := HA.out; omega))
  go_enter Tryd.func19, Tryd.ntmps19
  go_wp2_with (first
    | (have _ := G6; go_at_call 30; refine (padded_t T7 (v) 9 _ _ HT7.out (by have := HA.out; omega) (by decide) (by have := HA.out; omega) (by decide) _).mono ?_; rintro e w7 ⟨rfl, hb7⟩; have G7 := Lib.hid ((G6.out.trans (hb7.mono G6.out.size))); clear hb7)
    | (have _ := G5; go_at_call 30; refine (padded_t T6 (s % 60) 2 _ _ HT6.out (by have := HP.out; have := HD.out; have := HA.out; omega) (by decide) (by have := HP.out; have := HD.out; have := HA.out; omega) (by decide) _).mono ?_; rintro e w6 ⟨rfl, hb6⟩; have G6 := Lib.hid ((G5.out.trans (hb6.mono G5.out.size))); clear hb6)
    | (have _ := G4; go_at_call 30; refine (padded_t T5 (s / 60 % 60) 2 _ _ HT5.out (by have := HP.out; have := HD.out; have := HA.out; omega) (by decide) (by have := HP.out; have := HD.out; have := HA.out; omega) (by decide) _).mono ?_; rintro e w5 ⟨rfl, hb5⟩; have G5 := Lib.hid ((G4.out.trans (hb5.mono G4.out.size))); clear hb5)
    | (have _ := G3; go_at_call 30; refine (padded_t T4 (s / 3600) 2 _ _ HT4.out (by have := HP.out; have := HD.out; have := HA.out; omega) (by decide) (by have := HP.out; have := HD.out; have := HA.out; omega) (by decide) _).mono ?_; rintro e w4 ⟨rfl, hb4⟩; have G4 := Lib.hid ((G3.out.trans (hb4.mono G3.out.size))); clear hb4)
    | (have _ := G2; go_at_call 30; refine (padded_t T3 (dayN n) 2 _ _ HT3.out (by have := HP.out; have := HD.out; have := HA.out; omega) (by decide) (by have := HP.out; have := HD.out; have := HA.out; omega) (by decide) _).mono ?_; rintro e w3 ⟨rfl, hb3⟩; have G3 := Lib.hid ((G2.out.trans (hb3.mono G2.out.size))); clear hb3)
    | (have _ := G1; go_at_call 30; refine (padded_t T2 (monthN n) 2 _ _ HT2.out (by have := HP.out; have := HD.out; have := HA.out; omega) (by decide) (by have := HP.out; have := HD.out; have := HA.out; omega) (by decide) _).mono ?_; rintro e w2 ⟨rfl, hb2⟩; have G2 := Lib.hid ((G1.out.trans (hb2.mono G1.out.size))); clear hb2)
    | (have _ := g3; go_at_call 30; refine (padded_t T1 (yearN E n) 4 _ _ HT1.out (by have := HP.out; have := HD.out; have := HA.out; omega) (by decide) (by have := HP.out; have := HD.out; have := HA.out; omega) (by decide) _).mono ?_; rintro e w1 ⟨rfl, hb1⟩; have G1 := Lib.hid (hb1); clear hb1)
    | (have _ := g2; go_at_call 40; refine (floor_146097 N2 F HD.out.2.2.2.2.1 (by omega) (by omega) _).mono ?_; rintro e wf ⟨rfl, hwf⟩; have hwf2 := hwf.symm; clear hwf; subst hwf2; have g3 := True.intro)
    | (have _ := g1; go_at_call 40; refine (floor_86400 S D HD.out.2.1 (by omega) (by omega) _).mono ?_; rintro e wf ⟨rfl, hwf⟩; have hwf2 := hwf.symm; clear hwf; subst hwf2; have g2 := True.intro)
    | (go_at_call 40; refine (floor_1000000000 ns Q (by have := HA.out; omega) n0 n1 _).mono ?_; rintro e wf ⟨rfl, hwf⟩; have hwf2 := hwf.symm; clear hwf; subst hwf2; have g1 := True.intro))
  go_loopw [17] (fun f wr => ∃ (l : List UInt8) (X : ByteArray), f = .string X ∧ X = ⟨l.toArray⟩ ∧ stripz l = fracs v 9 ∧ l.length ≤ 9 ∧ Below w.heap.size w wr) (fun f _ => strLen f)
  case atStart => exact ⟨padT v 9, _, rfl, by rw [HT7.out], by rw [padT_eq 8 v (by have := HA.out; omega), stripz_fracs], by rw [padT_eq 8 v (by have := HA.out; omega), padz_length]; decide, G7.out⟩
  case round =>
    obtain ⟨l, X, rfl, hX, hl, hlp, hbel⟩ := hrel
    obtain ⟨l', a', rfl⟩ := last_of l (by rw [hl]; exact HF.out)
    have hsz : X.size = l'.length + 1 := by rw [hX, arr_size]; simp
    have hs1 : 1 ≤ X.size := by omega
    have hs2 : X.size ≤ 9 := by (simp at hlp); omega
    have hlast : X[l'.length]'(by omega) = a' := by
      subst hX
      show (l' ++ [a']).toArray[l'.length]'_ = a'
      simp
    by_cases ha' : a' = 48
    · have hb48 : (X[l'.length]'(by omega)).toNat = 48 := by rw [hlast, ha']; rfl
      have hx' : X.extract 0 l'.length = ⟨l'.toArray⟩ := by
        apply ByteArray.ext
        rw [hX]
        simp
      have HQ := Lib.hid (And.intro hX (And.intro hl (And.intro hlp (And.intro hbel (And.intro ha' (And.intro hlast hx'))))))
      clear hX hl hlp hbel ha' hlast hx'
      go_wp2
      go_roundw
      case rel => exact ⟨l', _, rfl, HQ.out.2.2.2.2.2.2, by rw [← HQ.out.2.1, HQ.out.2.2.2.2.1, stripz_snoc0], by have := HQ.out.2.2.1; simp at this; omega, HQ.out.2.2.2.1⟩
      case measure => simp [strLen]; omega
    · have hb48 : (((X[l'.length]'(by omega)).toNat : Int) == 48) = false := by
        rw [hlast]
        have e48 : (48 : UInt8).toNat = 48 := rfl
        simp
        intro h
        apply ha'
        apply UInt8.toNat.inj
        omega
      have hfT : fracT v 9 = 46 :: (l' ++ [a']) := by
        unfold fracT
        rw [← hl, stripz_snoc _ _ ha', if_neg (by simp)]
      have HQ := Lib.hid (And.intro hX hfT)
      have GL := Lib.hid hbel
      clear hX hl hlp hbel ha' hlast hfT
      go_wp2_with (first
        | (have _ := G8; go_at_call 30; refine (padded_t T9 (a % 60) 2 _ _ HT9.out (by have := HZ.out; omega) (by decide) (by have := HZ.out; omega) (by decide) _).mono ?_; rintro e w9 ⟨rfl, hb9⟩; have G9 := Lib.hid ((G8.out.trans (hb9.mono G8.out.size))); clear hb9)
        | (have _ := GL; go_at_call 30; refine (padded_t T8 (a / 60) 2 _ _ HT8.out (by have := HZ.out; omega) (by decide) (by have := HZ.out; omega) (by decide) _).mono ?_; rintro e w8 ⟨rfl, hb8⟩; have G8 := Lib.hid ((GL.out.trans (hb8.mono GL.out.size))); clear hb8))
      go_ret
      refine ⟨ret_str ?_, G9.out⟩
      rw [HQ.out.1, HT1.out, HT2.out, HT3.out, HT4.out, HT5.out, HT6.out, HT8.out, HT9.out]
      unfold fullT stampT zoneT
      rw [if_pos rfl, HQ.out.2, if_neg (show ¬ m = 0 by have := HZ.out; omega), if_neg (show ¬ m < 0 by have := HZ.out; omega), ← HZ.out.1]
      apply ByteArray.ext
      simp

set_option maxRecDepth 100000 in
set_option maxHeartbeats 2000000 in
theorem stamp_nano_west_low (ns Q R off m : Int) (h : ns = 1000000000 * Q + R) (v : Nat) (hv : R = (v : Int)) (hv1 : v ≤ 999999999) (n0 : -9223372036854775808 ≤ ns) (n1 : ns ≤ 9223372036854775807) (hm0 : -840 ≤ m) (hm1 : m ≤ 840) (hoff : off = 60 * m) (E n s : Nat) (hQ : Q + off = 86400 * (146097 * (E : Int) + (n : Int) - 719468) + (s : Int)) (hE : E ≤ 10) (hn : n < 146097) (hs : s < 86400) (hz : m ≤ -1) (hvz : 1 ≤ v) (hmp : mpOf n ≤ 9) (w : World) :
    Calls Tryd.prog 19 #[.int .i64 ns, .int .i64 off, .bool true] w fun e w' => e = .returned (.string ⟨(fullT E n s v m true).toArray⟩) ∧ Below w.heap.size w w' := by
  have q0 : -9223372037 ≤ Q := by omega
  have q1 : Q ≤ 9223372036 := by omega
  have eR : ns - Q * 1000000000 = R := by omega
  have r0 : 0 ≤ R := by omega
  have r1 : R ≤ 999999999 := by omega
  have o0 : -50400 ≤ off := by omega
  have o1 : off ≤ 50400 := by omega
  obtain ⟨S, hS⟩ : ∃ S : Int, Q + off = S := ⟨_, rfl⟩
  have s0 : -9223500000 ≤ S := by omega
  have s1 : S ≤ 9223500000 := by omega
  obtain ⟨D, hD⟩ : ∃ D : Int, D = 146097 * (E : Int) + (n : Int) - 719468 := ⟨_, rfl⟩
  have hD2 : D = S / 86400 := by omega
  obtain ⟨z, hzz⟩ : ∃ z : Int, z = (s : Int) := ⟨_, rfl⟩
  have eZ : S - D * 86400 = z := by omega
  have z0 : 0 ≤ z := by omega
  have z1 : z ≤ 86399 := by omega
  have d0 : -120000 ≤ D := by omega
  have d1 : D ≤ 120000 := by omega
  obtain ⟨N2, eN2⟩ : ∃ N2 : Int, D + 719468 = N2 := ⟨_, rfl⟩
  obtain ⟨F, hF⟩ : ∃ F : Int, F = (E : Int) := ⟨_, rfl⟩
  have hF2 : F = N2 / 146097 := by omega
  obtain ⟨x, hx⟩ : ∃ x : Int, x = (n : Int) := ⟨_, rfl⟩
  have eX : N2 - F * 146097 = x := by omega
  have x0 : 0 ≤ x := by omega
  have x1 : x ≤ 146096 := by omega
  have f0 : 0 ≤ F := by omega
  have f1 : F ≤ 10 := by omega
  have N0 : 0 ≤ N2 := by omega
  have N1 : N2 ≤ 2000000 := by omega
  obtain ⟨j1, j2, j3, j4, j5⟩ := stamp_parts E n hn
  obtain ⟨Y0, hY0⟩ : ∃ Y0 : Int, Y0 = ((100 * cOf n + cyOf n : Nat) : Int) := ⟨_, rfl⟩
  obtain ⟨I, hI⟩ : ∃ I : Int, I = (ydOf n : Int) := ⟨_, rfl⟩
  obtain ⟨P, hP⟩ : ∃ P : Int, P = (mpOf n : Int) := ⟨_, rfl⟩
  obtain ⟨DY, hDY⟩ : ∃ DY : Int, DY = (dayN n : Int) := ⟨_, rfl⟩
  have eY : (x - x / 1460 + x / 36524 - x / 146096) / 365 = Y0 := by rw [hx, hY0, ← j1]; omega
  have y0 : 0 ≤ Y0 := by omega
  have y1 : Y0 ≤ 399 := by omega
  have eI : x - (365 * Y0 + Y0 / 4 - Y0 / 100) = I := by rw [hx, hY0, hI]; omega
  have i0 : 0 ≤ I := by omega
  have i1 : I ≤ 365 := by omega
  have eP : (5 * I + 2) / 153 = P := by rw [hI, hP]; unfold mpOf; omega
  have p0 : 0 ≤ P := by omega
  have p1 : P ≤ 11 := by omega
  have eD : I - (153 * P + 2) / 5 + 1 = DY := by rw [hI, hP, hDY]; omega
  have hwR : wrap64 (ns - wrap64 (Q * 1000000000)) = R := by
    unfold wrap64; omega
  have hbnd : yearN E n ≤ 9999 ∧ monthN n ≤ 99 ∧ dayN n ≤ 99 := ⟨year_le E n hE hn, (month_le n hn).1, (month_le n hn).2⟩
  have yl : yearN E n = 400 * E + (100 * cOf n + cyOf n) := by unfold yearN; rw [if_neg (by omega), Nat.add_zero]
  have ml : monthN n = mpOf n + 3 := by unfold monthN; rw [if_neg (by omega)]
  have pl : P < 10 := by omega
  have oz : (off == 0) = false := by simp; omega
  obtain ⟨a, ha⟩ : ∃ a, a = m.natAbs := ⟨_, rfl⟩
  have hal : a ≤ 840 ∧ 1 ≤ a := by omega
  obtain ⟨B, hB⟩ : ∃ B : Int, B = 60 * (a : Int) := ⟨_, rfl⟩
  have ho : off = -B := by omega
  have b0 : 60 ≤ B := by omega
  have b1 : B ≤ 50400 := by omega
  have on : off < 0 := by omega
  have om : -off = B := by omega
  have rz : 1 ≤ R := by omega
  obtain ⟨T1, hT1, hp1⟩ := named (padT (yearN E n) 4) (padT_length _ _ (by decide) (by have := hbnd; omega))
  have HT1 := Lib.hid hT1
  clear hT1
  obtain ⟨T2, hT2, hp2⟩ := named (padT (monthN n) 2) (padT_length _ _ (by decide) (by have := hbnd; omega))
  have HT2 := Lib.hid hT2
  clear hT2
  obtain ⟨T3, hT3, hp3⟩ := named (padT (dayN n) 2) (padT_length _ _ (by decide) (by have := hbnd; omega))
  have HT3 := Lib.hid hT3
  clear hT3
  obtain ⟨T4, hT4, hp4⟩ := named (padT (s / 3600) 2) (padT_length _ _ (by decide) (by have := hbnd; omega))
  have HT4 := Lib.hid hT4
  clear hT4
  obtain ⟨T5, hT5, hp5⟩ := named (padT (s / 60 % 60) 2) (padT_length _ _ (by decide) (by have := hbnd; omega))
  have HT5 := Lib.hid hT5
  clear hT5
  obtain ⟨T6, hT6, hp6⟩ := named (padT (s % 60) 2) (padT_length _ _ (by decide) (by have := hbnd; omega))
  have HT6 := Lib.hid hT6
  clear hT6
  obtain ⟨T7, hT7, hp7⟩ := named (padT (v) 9) (padT_length _ _ (by decide) (by have := hbnd; omega))
  have HT7 := Lib.hid hT7
  clear hT7
  obtain ⟨T8, hT8, hp8⟩ := named (padT (a / 60) 2) (padT_length _ _ (by decide) (by have := hbnd; omega))
  have HT8 := Lib.hid hT8
  clear hT8
  obtain ⟨T9, hT9, hp9⟩ := named (padT (a % 60) 2) (padT_length _ _ (by decide) (by have := hbnd; omega))
  have HT9 := Lib.hid hT9
  clear hT9
  have HP := Lib.hid (And.intro hY0 (And.intro hI (And.intro hP (And.intro hDY (And.intro yl (And.intro ml (And.intro hbnd hmp)))))))
  clear hY0 hI hP hDY yl ml hbnd hmp j1 j2 j3 j4 j5
  have HA := Lib.hid (And.intro h (And.intro hv (And.intro hv1 (And.intro hoff (And.intro hE (And.intro hn (And.intro hs hQ)))))))
  have HD := Lib.hid (And.intro hD (And.intro hD2 (And.intro hzz (And.intro hF (And.intro hF2 hx)))))
  clear h hv hv1 hoff hE hn hs hQ hD hD2 hzz hF hF2 hx
  have HZ := Lib.hid (And.intro ha (And.intro hal (And.intro hB (And.intro ho hz))))
  clear ha hal hB ho hz hm0 hm1
  have HF := Lib.hid (show fracs v 9 ≠ [] from fracs_ne (by have := HA.out; omega))
  go_enter Tryd.func19, Tryd.ntmps19
  go_wp2_with (first
    | (have _ := G6; go_at_call 30; refine (padded_t T7 (v) 9 _ _ HT7.out (by have := HA.out; omega) (by decide) (by have := HA.out; omega) (by decide) _).mono ?_; rintro e w7 ⟨rfl, hb7⟩; have G7 := Lib.hid ((G6.out.trans (hb7.mono G6.out.size))); clear hb7)
    | (have _ := G5; go_at_call 30; refine (padded_t T6 (s % 60) 2 _ _ HT6.out (by have := HP.out; have := HD.out; have := HA.out; omega) (by decide) (by have := HP.out; have := HD.out; have := HA.out; omega) (by decide) _).mono ?_; rintro e w6 ⟨rfl, hb6⟩; have G6 := Lib.hid ((G5.out.trans (hb6.mono G5.out.size))); clear hb6)
    | (have _ := G4; go_at_call 30; refine (padded_t T5 (s / 60 % 60) 2 _ _ HT5.out (by have := HP.out; have := HD.out; have := HA.out; omega) (by decide) (by have := HP.out; have := HD.out; have := HA.out; omega) (by decide) _).mono ?_; rintro e w5 ⟨rfl, hb5⟩; have G5 := Lib.hid ((G4.out.trans (hb5.mono G4.out.size))); clear hb5)
    | (have _ := G3; go_at_call 30; refine (padded_t T4 (s / 3600) 2 _ _ HT4.out (by have := HP.out; have := HD.out; have := HA.out; omega) (by decide) (by have := HP.out; have := HD.out; have := HA.out; omega) (by decide) _).mono ?_; rintro e w4 ⟨rfl, hb4⟩; have G4 := Lib.hid ((G3.out.trans (hb4.mono G3.out.size))); clear hb4)
    | (have _ := G2; go_at_call 30; refine (padded_t T3 (dayN n) 2 _ _ HT3.out (by have := HP.out; have := HD.out; have := HA.out; omega) (by decide) (by have := HP.out; have := HD.out; have := HA.out; omega) (by decide) _).mono ?_; rintro e w3 ⟨rfl, hb3⟩; have G3 := Lib.hid ((G2.out.trans (hb3.mono G2.out.size))); clear hb3)
    | (have _ := G1; go_at_call 30; refine (padded_t T2 (monthN n) 2 _ _ HT2.out (by have := HP.out; have := HD.out; have := HA.out; omega) (by decide) (by have := HP.out; have := HD.out; have := HA.out; omega) (by decide) _).mono ?_; rintro e w2 ⟨rfl, hb2⟩; have G2 := Lib.hid ((G1.out.trans (hb2.mono G1.out.size))); clear hb2)
    | (have _ := g3; go_at_call 30; refine (padded_t T1 (yearN E n) 4 _ _ HT1.out (by have := HP.out; have := HD.out; have := HA.out; omega) (by decide) (by have := HP.out; have := HD.out; have := HA.out; omega) (by decide) _).mono ?_; rintro e w1 ⟨rfl, hb1⟩; have G1 := Lib.hid (hb1); clear hb1)
    | (have _ := g2; go_at_call 40; refine (floor_146097 N2 F HD.out.2.2.2.2.1 (by omega) (by omega) _).mono ?_; rintro e wf ⟨rfl, hwf⟩; have hwf2 := hwf.symm; clear hwf; subst hwf2; have g3 := True.intro)
    | (have _ := g1; go_at_call 40; refine (floor_86400 S D HD.out.2.1 (by omega) (by omega) _).mono ?_; rintro e wf ⟨rfl, hwf⟩; have hwf2 := hwf.symm; clear hwf; subst hwf2; have g2 := True.intro)
    | (go_at_call 40; refine (floor_1000000000 ns Q (by have := HA.out; omega) n0 n1 _).mono ?_; rintro e wf ⟨rfl, hwf⟩; have hwf2 := hwf.symm; clear hwf; subst hwf2; have g1 := True.intro))
  go_loopw [17] (fun f wr => ∃ (l : List UInt8) (X : ByteArray), f = .string X ∧ X = ⟨l.toArray⟩ ∧ stripz l = fracs v 9 ∧ l.length ≤ 9 ∧ Below w.heap.size w wr) (fun f _ => strLen f)
  case atStart => exact ⟨padT v 9, _, rfl, by rw [HT7.out], by rw [padT_eq 8 v (by have := HA.out; omega), stripz_fracs], by rw [padT_eq 8 v (by have := HA.out; omega), padz_length]; decide, G7.out⟩
  case round =>
    obtain ⟨l, X, rfl, hX, hl, hlp, hbel⟩ := hrel
    obtain ⟨l', a', rfl⟩ := last_of l (by rw [hl]; exact HF.out)
    have hsz : X.size = l'.length + 1 := by rw [hX, arr_size]; simp
    have hs1 : 1 ≤ X.size := by omega
    have hs2 : X.size ≤ 9 := by (simp at hlp); omega
    have hlast : X[l'.length]'(by omega) = a' := by
      subst hX
      show (l' ++ [a']).toArray[l'.length]'_ = a'
      simp
    by_cases ha' : a' = 48
    · have hb48 : (X[l'.length]'(by omega)).toNat = 48 := by rw [hlast, ha']; rfl
      have hx' : X.extract 0 l'.length = ⟨l'.toArray⟩ := by
        apply ByteArray.ext
        rw [hX]
        simp
      have HQ := Lib.hid (And.intro hX (And.intro hl (And.intro hlp (And.intro hbel (And.intro ha' (And.intro hlast hx'))))))
      clear hX hl hlp hbel ha' hlast hx'
      go_wp2
      go_roundw
      case rel => exact ⟨l', _, rfl, HQ.out.2.2.2.2.2.2, by rw [← HQ.out.2.1, HQ.out.2.2.2.2.1, stripz_snoc0], by have := HQ.out.2.2.1; simp at this; omega, HQ.out.2.2.2.1⟩
      case measure => simp [strLen]; omega
    · have hb48 : (((X[l'.length]'(by omega)).toNat : Int) == 48) = false := by
        rw [hlast]
        have e48 : (48 : UInt8).toNat = 48 := rfl
        simp
        intro h
        apply ha'
        apply UInt8.toNat.inj
        omega
      have hfT : fracT v 9 = 46 :: (l' ++ [a']) := by
        unfold fracT
        rw [← hl, stripz_snoc _ _ ha', if_neg (by simp)]
      have HQ := Lib.hid (And.intro hX hfT)
      have GL := Lib.hid hbel
      clear hX hl hlp hbel ha' hlast hfT
      go_wp2_with (first
        | (have _ := G8; go_at_call 30; refine (padded_t T9 (a % 60) 2 _ _ HT9.out (by have := HZ.out; omega) (by decide) (by have := HZ.out; omega) (by decide) _).mono ?_; rintro e w9 ⟨rfl, hb9⟩; have G9 := Lib.hid ((G8.out.trans (hb9.mono G8.out.size))); clear hb9)
        | (have _ := GL; go_at_call 30; refine (padded_t T8 (a / 60) 2 _ _ HT8.out (by have := HZ.out; omega) (by decide) (by have := HZ.out; omega) (by decide) _).mono ?_; rintro e w8 ⟨rfl, hb8⟩; have G8 := Lib.hid ((GL.out.trans (hb8.mono GL.out.size))); clear hb8))
      go_ret
      refine ⟨ret_str ?_, G9.out⟩
      rw [HQ.out.1, HT1.out, HT2.out, HT3.out, HT4.out, HT5.out, HT6.out, HT8.out, HT9.out]
      unfold fullT stampT zoneT
      rw [if_pos rfl, HQ.out.2, if_neg (show ¬ m = 0 by have := HZ.out; omega), if_pos (show m < 0 by have := HZ.out; omega), ← HZ.out.1]
      apply ByteArray.ext
      simp

set_option maxRecDepth 100000 in
set_option maxHeartbeats 2000000 in
theorem stamp_nano_west_high (ns Q R off m : Int) (h : ns = 1000000000 * Q + R) (v : Nat) (hv : R = (v : Int)) (hv1 : v ≤ 999999999) (n0 : -9223372036854775808 ≤ ns) (n1 : ns ≤ 9223372036854775807) (hm0 : -840 ≤ m) (hm1 : m ≤ 840) (hoff : off = 60 * m) (E n s : Nat) (hQ : Q + off = 86400 * (146097 * (E : Int) + (n : Int) - 719468) + (s : Int)) (hE : E ≤ 10) (hn : n < 146097) (hs : s < 86400) (hz : m ≤ -1) (hvz : 1 ≤ v) (hmp : 10 ≤ mpOf n) (w : World) :
    Calls Tryd.prog 19 #[.int .i64 ns, .int .i64 off, .bool true] w fun e w' => e = .returned (.string ⟨(fullT E n s v m true).toArray⟩) ∧ Below w.heap.size w w' := by
  have q0 : -9223372037 ≤ Q := by omega
  have q1 : Q ≤ 9223372036 := by omega
  have eR : ns - Q * 1000000000 = R := by omega
  have r0 : 0 ≤ R := by omega
  have r1 : R ≤ 999999999 := by omega
  have o0 : -50400 ≤ off := by omega
  have o1 : off ≤ 50400 := by omega
  obtain ⟨S, hS⟩ : ∃ S : Int, Q + off = S := ⟨_, rfl⟩
  have s0 : -9223500000 ≤ S := by omega
  have s1 : S ≤ 9223500000 := by omega
  obtain ⟨D, hD⟩ : ∃ D : Int, D = 146097 * (E : Int) + (n : Int) - 719468 := ⟨_, rfl⟩
  have hD2 : D = S / 86400 := by omega
  obtain ⟨z, hzz⟩ : ∃ z : Int, z = (s : Int) := ⟨_, rfl⟩
  have eZ : S - D * 86400 = z := by omega
  have z0 : 0 ≤ z := by omega
  have z1 : z ≤ 86399 := by omega
  have d0 : -120000 ≤ D := by omega
  have d1 : D ≤ 120000 := by omega
  obtain ⟨N2, eN2⟩ : ∃ N2 : Int, D + 719468 = N2 := ⟨_, rfl⟩
  obtain ⟨F, hF⟩ : ∃ F : Int, F = (E : Int) := ⟨_, rfl⟩
  have hF2 : F = N2 / 146097 := by omega
  obtain ⟨x, hx⟩ : ∃ x : Int, x = (n : Int) := ⟨_, rfl⟩
  have eX : N2 - F * 146097 = x := by omega
  have x0 : 0 ≤ x := by omega
  have x1 : x ≤ 146096 := by omega
  have f0 : 0 ≤ F := by omega
  have f1 : F ≤ 10 := by omega
  have N0 : 0 ≤ N2 := by omega
  have N1 : N2 ≤ 2000000 := by omega
  obtain ⟨j1, j2, j3, j4, j5⟩ := stamp_parts E n hn
  obtain ⟨Y0, hY0⟩ : ∃ Y0 : Int, Y0 = ((100 * cOf n + cyOf n : Nat) : Int) := ⟨_, rfl⟩
  obtain ⟨I, hI⟩ : ∃ I : Int, I = (ydOf n : Int) := ⟨_, rfl⟩
  obtain ⟨P, hP⟩ : ∃ P : Int, P = (mpOf n : Int) := ⟨_, rfl⟩
  obtain ⟨DY, hDY⟩ : ∃ DY : Int, DY = (dayN n : Int) := ⟨_, rfl⟩
  have eY : (x - x / 1460 + x / 36524 - x / 146096) / 365 = Y0 := by rw [hx, hY0, ← j1]; omega
  have y0 : 0 ≤ Y0 := by omega
  have y1 : Y0 ≤ 399 := by omega
  have eI : x - (365 * Y0 + Y0 / 4 - Y0 / 100) = I := by rw [hx, hY0, hI]; omega
  have i0 : 0 ≤ I := by omega
  have i1 : I ≤ 365 := by omega
  have eP : (5 * I + 2) / 153 = P := by rw [hI, hP]; unfold mpOf; omega
  have p0 : 0 ≤ P := by omega
  have p1 : P ≤ 11 := by omega
  have eD : I - (153 * P + 2) / 5 + 1 = DY := by rw [hI, hP, hDY]; omega
  have hwR : wrap64 (ns - wrap64 (Q * 1000000000)) = R := by
    unfold wrap64; omega
  have hbnd : yearN E n ≤ 9999 ∧ monthN n ≤ 99 ∧ dayN n ≤ 99 := ⟨year_le E n hE hn, (month_le n hn).1, (month_le n hn).2⟩
  have yl : yearN E n = 400 * E + (100 * cOf n + cyOf n) + 1 := by unfold yearN; rw [if_pos (by omega)]
  have ml : monthN n = mpOf n - 9 := by unfold monthN; rw [if_pos (by omega)]
  have pl : 10 ≤ P := by omega
  have oz : (off == 0) = false := by simp; omega
  obtain ⟨a, ha⟩ : ∃ a, a = m.natAbs := ⟨_, rfl⟩
  have hal : a ≤ 840 ∧ 1 ≤ a := by omega
  obtain ⟨B, hB⟩ : ∃ B : Int, B = 60 * (a : Int) := ⟨_, rfl⟩
  have ho : off = -B := by omega
  have b0 : 60 ≤ B := by omega
  have b1 : B ≤ 50400 := by omega
  have on : off < 0 := by omega
  have om : -off = B := by omega
  have rz : 1 ≤ R := by omega
  obtain ⟨T1, hT1, hp1⟩ := named (padT (yearN E n) 4) (padT_length _ _ (by decide) (by have := hbnd; omega))
  have HT1 := Lib.hid hT1
  clear hT1
  obtain ⟨T2, hT2, hp2⟩ := named (padT (monthN n) 2) (padT_length _ _ (by decide) (by have := hbnd; omega))
  have HT2 := Lib.hid hT2
  clear hT2
  obtain ⟨T3, hT3, hp3⟩ := named (padT (dayN n) 2) (padT_length _ _ (by decide) (by have := hbnd; omega))
  have HT3 := Lib.hid hT3
  clear hT3
  obtain ⟨T4, hT4, hp4⟩ := named (padT (s / 3600) 2) (padT_length _ _ (by decide) (by have := hbnd; omega))
  have HT4 := Lib.hid hT4
  clear hT4
  obtain ⟨T5, hT5, hp5⟩ := named (padT (s / 60 % 60) 2) (padT_length _ _ (by decide) (by have := hbnd; omega))
  have HT5 := Lib.hid hT5
  clear hT5
  obtain ⟨T6, hT6, hp6⟩ := named (padT (s % 60) 2) (padT_length _ _ (by decide) (by have := hbnd; omega))
  have HT6 := Lib.hid hT6
  clear hT6
  obtain ⟨T7, hT7, hp7⟩ := named (padT (v) 9) (padT_length _ _ (by decide) (by have := hbnd; omega))
  have HT7 := Lib.hid hT7
  clear hT7
  obtain ⟨T8, hT8, hp8⟩ := named (padT (a / 60) 2) (padT_length _ _ (by decide) (by have := hbnd; omega))
  have HT8 := Lib.hid hT8
  clear hT8
  obtain ⟨T9, hT9, hp9⟩ := named (padT (a % 60) 2) (padT_length _ _ (by decide) (by have := hbnd; omega))
  have HT9 := Lib.hid hT9
  clear hT9
  have HP := Lib.hid (And.intro hY0 (And.intro hI (And.intro hP (And.intro hDY (And.intro yl (And.intro ml (And.intro hbnd hmp)))))))
  clear hY0 hI hP hDY yl ml hbnd hmp j1 j2 j3 j4 j5
  have HA := Lib.hid (And.intro h (And.intro hv (And.intro hv1 (And.intro hoff (And.intro hE (And.intro hn (And.intro hs hQ)))))))
  have HD := Lib.hid (And.intro hD (And.intro hD2 (And.intro hzz (And.intro hF (And.intro hF2 hx)))))
  clear h hv hv1 hoff hE hn hs hQ hD hD2 hzz hF hF2 hx
  have HZ := Lib.hid (And.intro ha (And.intro hal (And.intro hB (And.intro ho hz))))
  clear ha hal hB ho hz hm0 hm1
  have HF := Lib.hid (show fracs v 9 ≠ [] from fracs_ne (by have := HA.out; omega))
  go_enter Tryd.func19, Tryd.ntmps19
  go_wp2_with (first
    | (have _ := G6; go_at_call 30; refine (padded_t T7 (v) 9 _ _ HT7.out (by have := HA.out; omega) (by decide) (by have := HA.out; omega) (by decide) _).mono ?_; rintro e w7 ⟨rfl, hb7⟩; have G7 := Lib.hid ((G6.out.trans (hb7.mono G6.out.size))); clear hb7)
    | (have _ := G5; go_at_call 30; refine (padded_t T6 (s % 60) 2 _ _ HT6.out (by have := HP.out; have := HD.out; have := HA.out; omega) (by decide) (by have := HP.out; have := HD.out; have := HA.out; omega) (by decide) _).mono ?_; rintro e w6 ⟨rfl, hb6⟩; have G6 := Lib.hid ((G5.out.trans (hb6.mono G5.out.size))); clear hb6)
    | (have _ := G4; go_at_call 30; refine (padded_t T5 (s / 60 % 60) 2 _ _ HT5.out (by have := HP.out; have := HD.out; have := HA.out; omega) (by decide) (by have := HP.out; have := HD.out; have := HA.out; omega) (by decide) _).mono ?_; rintro e w5 ⟨rfl, hb5⟩; have G5 := Lib.hid ((G4.out.trans (hb5.mono G4.out.size))); clear hb5)
    | (have _ := G3; go_at_call 30; refine (padded_t T4 (s / 3600) 2 _ _ HT4.out (by have := HP.out; have := HD.out; have := HA.out; omega) (by decide) (by have := HP.out; have := HD.out; have := HA.out; omega) (by decide) _).mono ?_; rintro e w4 ⟨rfl, hb4⟩; have G4 := Lib.hid ((G3.out.trans (hb4.mono G3.out.size))); clear hb4)
    | (have _ := G2; go_at_call 30; refine (padded_t T3 (dayN n) 2 _ _ HT3.out (by have := HP.out; have := HD.out; have := HA.out; omega) (by decide) (by have := HP.out; have := HD.out; have := HA.out; omega) (by decide) _).mono ?_; rintro e w3 ⟨rfl, hb3⟩; have G3 := Lib.hid ((G2.out.trans (hb3.mono G2.out.size))); clear hb3)
    | (have _ := G1; go_at_call 30; refine (padded_t T2 (monthN n) 2 _ _ HT2.out (by have := HP.out; have := HD.out; have := HA.out; omega) (by decide) (by have := HP.out; have := HD.out; have := HA.out; omega) (by decide) _).mono ?_; rintro e w2 ⟨rfl, hb2⟩; have G2 := Lib.hid ((G1.out.trans (hb2.mono G1.out.size))); clear hb2)
    | (have _ := g3; go_at_call 30; refine (padded_t T1 (yearN E n) 4 _ _ HT1.out (by have := HP.out; have := HD.out; have := HA.out; omega) (by decide) (by have := HP.out; have := HD.out; have := HA.out; omega) (by decide) _).mono ?_; rintro e w1 ⟨rfl, hb1⟩; have G1 := Lib.hid (hb1); clear hb1)
    | (have _ := g2; go_at_call 40; refine (floor_146097 N2 F HD.out.2.2.2.2.1 (by omega) (by omega) _).mono ?_; rintro e wf ⟨rfl, hwf⟩; have hwf2 := hwf.symm; clear hwf; subst hwf2; have g3 := True.intro)
    | (have _ := g1; go_at_call 40; refine (floor_86400 S D HD.out.2.1 (by omega) (by omega) _).mono ?_; rintro e wf ⟨rfl, hwf⟩; have hwf2 := hwf.symm; clear hwf; subst hwf2; have g2 := True.intro)
    | (go_at_call 40; refine (floor_1000000000 ns Q (by have := HA.out; omega) n0 n1 _).mono ?_; rintro e wf ⟨rfl, hwf⟩; have hwf2 := hwf.symm; clear hwf; subst hwf2; have g1 := True.intro))
  go_loopw [17] (fun f wr => ∃ (l : List UInt8) (X : ByteArray), f = .string X ∧ X = ⟨l.toArray⟩ ∧ stripz l = fracs v 9 ∧ l.length ≤ 9 ∧ Below w.heap.size w wr) (fun f _ => strLen f)
  case atStart => exact ⟨padT v 9, _, rfl, by rw [HT7.out], by rw [padT_eq 8 v (by have := HA.out; omega), stripz_fracs], by rw [padT_eq 8 v (by have := HA.out; omega), padz_length]; decide, G7.out⟩
  case round =>
    obtain ⟨l, X, rfl, hX, hl, hlp, hbel⟩ := hrel
    obtain ⟨l', a', rfl⟩ := last_of l (by rw [hl]; exact HF.out)
    have hsz : X.size = l'.length + 1 := by rw [hX, arr_size]; simp
    have hs1 : 1 ≤ X.size := by omega
    have hs2 : X.size ≤ 9 := by (simp at hlp); omega
    have hlast : X[l'.length]'(by omega) = a' := by
      subst hX
      show (l' ++ [a']).toArray[l'.length]'_ = a'
      simp
    by_cases ha' : a' = 48
    · have hb48 : (X[l'.length]'(by omega)).toNat = 48 := by rw [hlast, ha']; rfl
      have hx' : X.extract 0 l'.length = ⟨l'.toArray⟩ := by
        apply ByteArray.ext
        rw [hX]
        simp
      have HQ := Lib.hid (And.intro hX (And.intro hl (And.intro hlp (And.intro hbel (And.intro ha' (And.intro hlast hx'))))))
      clear hX hl hlp hbel ha' hlast hx'
      go_wp2
      go_roundw
      case rel => exact ⟨l', _, rfl, HQ.out.2.2.2.2.2.2, by rw [← HQ.out.2.1, HQ.out.2.2.2.2.1, stripz_snoc0], by have := HQ.out.2.2.1; simp at this; omega, HQ.out.2.2.2.1⟩
      case measure => simp [strLen]; omega
    · have hb48 : (((X[l'.length]'(by omega)).toNat : Int) == 48) = false := by
        rw [hlast]
        have e48 : (48 : UInt8).toNat = 48 := rfl
        simp
        intro h
        apply ha'
        apply UInt8.toNat.inj
        omega
      have hfT : fracT v 9 = 46 :: (l' ++ [a']) := by
        unfold fracT
        rw [← hl, stripz_snoc _ _ ha', if_neg (by simp)]
      have HQ := Lib.hid (And.intro hX hfT)
      have GL := Lib.hid hbel
      clear hX hl hlp hbel ha' hlast hfT
      go_wp2_with (first
        | (have _ := G8; go_at_call 30; refine (padded_t T9 (a % 60) 2 _ _ HT9.out (by have := HZ.out; omega) (by decide) (by have := HZ.out; omega) (by decide) _).mono ?_; rintro e w9 ⟨rfl, hb9⟩; have G9 := Lib.hid ((G8.out.trans (hb9.mono G8.out.size))); clear hb9)
        | (have _ := GL; go_at_call 30; refine (padded_t T8 (a / 60) 2 _ _ HT8.out (by have := HZ.out; omega) (by decide) (by have := HZ.out; omega) (by decide) _).mono ?_; rintro e w8 ⟨rfl, hb8⟩; have G8 := Lib.hid ((GL.out.trans (hb8.mono GL.out.size))); clear hb8))
      go_ret
      refine ⟨ret_str ?_, G9.out⟩
      rw [HQ.out.1, HT1.out, HT2.out, HT3.out, HT4.out, HT5.out, HT6.out, HT8.out, HT9.out]
      unfold fullT stampT zoneT
      rw [if_pos rfl, HQ.out.2, if_neg (show ¬ m = 0 by have := HZ.out; omega), if_pos (show m < 0 by have := HZ.out; omega), ← HZ.out.1]
      apply ByteArray.ext
      simp
end Go.Proofs.YtdbnconphcaclaaDoor
