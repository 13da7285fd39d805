/-
  The law FnLogMoment: a time by the layouts of RFC 3339 is the one that spec.Stamp writes.
-/
import Derived.Test.YtdbnconphcaclaaDoorStamp2
namespace Go.Proofs.YtdbnconphcaclaaDoor
open Go.RowKit
set_option linter.unusedVariables false

theorem stamp_any (ns Q R off m : Int) (h : ns = 1000000000 * Q + R) (v : Nat) (hv : R = (v : Int)) (hv1 : v ≤ 999999999) (n0 : -9223372036854775808 ≤ ns) (n1 : ns ≤ 9223372036854775807) (hm0 : -840 ≤ m) (hm1 : m ≤ 840) (hoff : off = 60 * m) (E n s : Nat) (hQ : Q + off = 86400 * (146097 * (E : Int) + (n : Int) - 719468) + (s : Int)) (hE : E ≤ 10) (hn : n < 146097) (hs : s < 86400) (nb : Bool) (w : World) :
    Calls Tryd.prog 19 #[.int .i64 ns, .int .i64 off, .bool nb] w fun e w' => e = .returned (.string ⟨(fullT E n s v m nb).toArray⟩) ∧ Below w.heap.size w w' := by
  have hmp : mpOf n ≤ 9 ∨ 10 ≤ mpOf n := by omega
  rcases Int.lt_trichotomy m 0 with hz | hz | hz
  · cases nb
    · rcases hmp with hp | hp
      · exact stamp_plain_west_low ns Q R off m h v hv hv1 n0 n1 hm0 hm1 hoff E n s hQ hE hn hs (by omega) hp w
      · exact stamp_plain_west_high ns Q R off m h v hv hv1 n0 n1 hm0 hm1 hoff E n s hQ hE hn hs (by omega) hp w
    · by_cases hv0 : v = 0
      · rcases hmp with hp | hp
        · exact stamp_zero_west_low ns Q R off m h v hv hv1 n0 n1 hm0 hm1 hoff E n s hQ hE hn hs (by omega) hv0 hp w
        · exact stamp_zero_west_high ns Q R off m h v hv hv1 n0 n1 hm0 hm1 hoff E n s hQ hE hn hs (by omega) hv0 hp w
      · rcases hmp with hp | hp
        · exact stamp_nano_west_low ns Q R off m h v hv hv1 n0 n1 hm0 hm1 hoff E n s hQ hE hn hs (by omega) (by omega) hp w
        · exact stamp_nano_west_high ns Q R off m h v hv hv1 n0 n1 hm0 hm1 hoff E n s hQ hE hn hs (by omega) (by omega) hp w
  · cases nb
    · rcases hmp with hp | hp
      · exact stamp_plain_utc_low ns Q R off m h v hv hv1 n0 n1 hm0 hm1 hoff E n s hQ hE hn hs hz hp w
      · exact stamp_plain_utc_high ns Q R off m h v hv hv1 n0 n1 hm0 hm1 hoff E n s hQ hE hn hs hz hp w
    · by_cases hv0 : v = 0
      · rcases hmp with hp | hp
        · exact stamp_zero_utc_low ns Q R off m h v hv hv1 n0 n1 hm0 hm1 hoff E n s hQ hE hn hs hz hv0 hp w
        · exact stamp_zero_utc_high ns Q R off m h v hv hv1 n0 n1 hm0 hm1 hoff E n s hQ hE hn hs hz hv0 hp w
      · rcases hmp with hp | hp
        · exact stamp_nano_utc_low ns Q R off m h v hv hv1 n0 n1 hm0 hm1 hoff E n s hQ hE hn hs hz (by omega) hp w
        · exact stamp_nano_utc_high ns Q R off m h v hv hv1 n0 n1 hm0 hm1 hoff E n s hQ hE hn hs hz (by omega) hp w
  · cases nb
    · rcases hmp with hp | hp
      · exact stamp_plain_east_low ns Q R off m h v hv hv1 n0 n1 hm0 hm1 hoff E n s hQ hE hn hs (by omega) hp w
      · exact stamp_plain_east_high ns Q R off m h v hv hv1 n0 n1 hm0 hm1 hoff E n s hQ hE hn hs (by omega) hp w
    · by_cases hv0 : v = 0
      · rcases hmp with hp | hp
        · exact stamp_zero_east_low ns Q R off m h v hv hv1 n0 n1 hm0 hm1 hoff E n s hQ hE hn hs (by omega) hv0 hp w
        · exact stamp_zero_east_high ns Q R off m h v hv hv1 n0 n1 hm0 hm1 hoff E n s hQ hE hn hs (by omega) hv0 hp w
      · rcases hmp with hp | hp
        · exact stamp_nano_east_low ns Q R off m h v hv hv1 n0 n1 hm0 hm1 hoff E n s hQ hE hn hs (by omega) (by omega) hp w
        · exact stamp_nano_east_high ns Q R off m h v hv hv1 n0 n1 hm0 hm1 hoff E n s hQ hE hn hs (by omega) (by omega) hp w

set_option maxRecDepth 100000 in
theorem layouts (w : World) : Calls Tryd.prog 17 #[] w fun e w' => e = .returned (.slice (some ⟨w.heap.size, 0, none⟩) 6 6) ∧ w' = w.alloc (.cells #[.string ⟨#[]⟩, .string ⟨#[85, 78, 73, 88, 77, 83]⟩, .string ⟨#[85, 78, 73, 88, 77, 73, 67, 82, 79]⟩, .string ⟨#[85, 78, 73, 88, 78, 65, 78, 79]⟩, .string ⟨#[50, 48, 48, 54, 45, 48, 49, 45, 48, 50, 84, 49, 53, 58, 48, 52, 58, 48, 53, 90, 48, 55, 58, 48, 48]⟩, .string ⟨#[50, 48, 48, 54, 45, 48, 49, 45, 48, 50, 84, 49, 53, 58, 48, 52, 58, 48, 53, 46, 57, 57, 57, 57, 57, 57, 57, 57, 57, 90, 48, 55, 58, 48, 48]⟩] 9) := by
  go_enter Tryd.func17, Tryd.ntmps17
  go_wp2
  go_ret
  exact ⟨rfl, rfl⟩
/-- Any instant has its parts. -/
theorem parts (ns m : Int) (n0 : -9223372036854775808 ≤ ns) (n1 : ns ≤ 9223372036854775807) (hm0 : -840 ≤ m) (hm1 : m ≤ 840) : ∃ (Q R : Int) (v E n s : Nat), ns = 1000000000 * Q + R ∧ R = (v : Int) ∧ v ≤ 999999999 ∧ Q + 60 * m = 86400 * (146097 * (E : Int) + (n : Int) - 719468) + (s : Int) ∧ E ≤ 10 ∧ n < 146097 ∧ s < 86400 := by
  obtain ⟨Q, hQ⟩ : ∃ Q, Q = ns / 1000000000 := ⟨_, rfl⟩
  obtain ⟨R, hR⟩ : ∃ R, R = ns % 1000000000 := ⟨_, rfl⟩
  obtain ⟨S, hS⟩ : ∃ S, S = Q + 60 * m := ⟨_, rfl⟩
  obtain ⟨D, hD⟩ : ∃ D, D = S / 86400 + 719468 := ⟨_, rfl⟩
  have r0 : 0 ≤ R := by omega
  have d0 : 0 ≤ D := by omega
  obtain ⟨v, hv⟩ := Int.eq_ofNat_of_zero_le r0
  obtain ⟨s, hs⟩ := Int.eq_ofNat_of_zero_le (show 0 ≤ S % 86400 by omega)
  obtain ⟨E, hE⟩ := Int.eq_ofNat_of_zero_le (show 0 ≤ D / 146097 by omega)
  obtain ⟨n, hn⟩ := Int.eq_ofNat_of_zero_le (show 0 ≤ D % 146097 by omega)
  exact ⟨Q, R, v, E, n, s, by omega, hv, by omega, by omega, by omega, by omega, by omega⟩

set_option maxRecDepth 100000 in
set_option maxHeartbeats 1000000 in
theorem moment_law (ns mi : Int) (nb : Bool) (hns : -9223372036854775808 ≤ ns ∧ ns ≤ 9223372036854775807) (hmi : -32768 ≤ mi ∧ mi ≤ 32767) (w : World) :
    Calls Tryd.prog 7 #[.int .i64 ns, .int .i16 mi, .bool nb] w fun e w' => e = .returned (.bool true) ∧ Below w.heap.size w w' := by
  obtain ⟨n0, n1⟩ := hns
  obtain ⟨i0, i1⟩ := hmi
  by_cases c0 : mi < -840
  · go_enter Tryd.func7, Tryd.ntmps7
    go_wp2
    go_ret
    exact ⟨rfl, Below.refl _ _⟩
  by_cases c1 : 840 < mi
  · go_enter Tryd.func7, Tryd.ntmps7
    go_wp2
    go_ret
    exact ⟨rfl, Below.refl _ _⟩
  obtain ⟨Q, R, v, E, n, s, h, hv, hv1, hQ, hE, hn, hs⟩ := parts ns mi n0 n1 (by omega) (by omega)
  obtain ⟨T, hT⟩ : ∃ T, T = fullT E n s v mi nb := ⟨_, rfl⟩
  have es : ((ByteArray.mk T.toArray).toList == (ByteArray.mk T.toArray).toList) = true := by simp
  obtain ⟨off, hoff⟩ : ∃ off, mi * 60 = off := ⟨_, rfl⟩
  have HT := Lib.hid (And.intro hT (And.intro h (And.intro hv (And.intro hv1 (And.intro hQ (And.intro hE (And.intro hn hs)))))))
  have ho : off = 60 * mi := by omega
  have o0 : -50400 ≤ off := by omega
  have o1 : off ≤ 50400 := by omega
  have HO := Lib.hid ho
  clear hT h hv hv1 hQ hE hn hs ho
  cases nb
  · go_enter Tryd.func7, Tryd.ntmps7
    go_wp2_with (first
      | (have _ := H4; go_at_call 12; refine (awake_any _).mono ?_; rintro e w5 ⟨rfl, n2, hw5⟩; subst hw5)
      | (have _ := H3; go_at_call 19; obtain ⟨hT, h, hv, hv1, hQ, hE, hn, hs⟩ := HT.out; refine (stamp_any ns Q R off mi h v hv hv1 n0 n1 (by omega) (by omega) HO.out E n s (by rw [HO.out]; exact hQ) hE hn hs false _).mono ?_; rintro e w4 ⟨rfl, hb⟩; rw [← hT]; have H4 := Lib.hid hb; clear hb hT h hv hv1 hQ hE hn hs)
      | (have _ := y1; go_at_call 18; obtain ⟨hT, h, hv, hv1, hQ, hE, hn, hs⟩ := HT.out; refine (lmoment_plain ns Q R off mi h v hv hv1 n0 n1 (by omega) (by omega) HO.out E n s (by rw [HO.out]; exact hQ) hE hn hs _).mono ?_; rintro e w3 ⟨rfl, hb⟩; rw [← hT]; have H3 := Lib.hid hb; clear hb hT h hv hv1 hQ hE hn hs)
      | (go_at_call 17; refine (layouts _).mono ?_; rintro e w1 ⟨rfl, hw1⟩; subst hw1; have y1 := True.intro))
    go_ret
    have hb := (Below.refl w.heap.size w).alloc (Nat.le_refl _) (.cells #[.string ⟨#[]⟩, .string ⟨#[85, 78, 73, 88, 77, 83]⟩, .string ⟨#[85, 78, 73, 88, 77, 73, 67, 82, 79]⟩, .string ⟨#[85, 78, 73, 88, 78, 65, 78, 79]⟩, .string ⟨#[50, 48, 48, 54, 45, 48, 49, 45, 48, 50, 84, 49, 53, 58, 48, 52, 58, 48, 53, 90, 48, 55, 58, 48, 48]⟩, .string ⟨#[50, 48, 48, 54, 45, 48, 49, 45, 48, 50, 84, 49, 53, 58, 48, 52, 58, 48, 53, 46, 57, 57, 57, 57, 57, 57, 57, 57, 57, 90, 48, 55, 58, 48, 48]⟩] 9)
    have h3 := hb.trans (H3.out.mono (by simp))
    exact ⟨rfl, below_drewN (h3.trans (H4.out.mono h3.size)) _⟩
  · go_enter Tryd.func7, Tryd.ntmps7
    go_wp2_with (first
      | (have _ := H4; go_at_call 12; refine (awake_any _).mono ?_; rintro e w5 ⟨rfl, n2, hw5⟩; subst hw5)
      | (have _ := H3; go_at_call 19; obtain ⟨hT, h, hv, hv1, hQ, hE, hn, hs⟩ := HT.out; refine (stamp_any ns Q R off mi h v hv hv1 n0 n1 (by omega) (by omega) HO.out E n s (by rw [HO.out]; exact hQ) hE hn hs true _).mono ?_; rintro e w4 ⟨rfl, hb⟩; rw [← hT]; have H4 := Lib.hid hb; clear hb hT h hv hv1 hQ hE hn hs)
      | (have _ := y1; go_at_call 18; obtain ⟨hT, h, hv, hv1, hQ, hE, hn, hs⟩ := HT.out; refine (lmoment_nano ns Q R off mi h v hv hv1 n0 n1 (by omega) (by omega) HO.out E n s (by rw [HO.out]; exact hQ) hE hn hs _).mono ?_; rintro e w3 ⟨rfl, hb⟩; rw [← hT]; have H3 := Lib.hid hb; clear hb hT h hv hv1 hQ hE hn hs)
      | (go_at_call 17; refine (layouts _).mono ?_; rintro e w1 ⟨rfl, hw1⟩; subst hw1; have y1 := True.intro))
    go_ret
    have hb := (Below.refl w.heap.size w).alloc (Nat.le_refl _) (.cells #[.string ⟨#[]⟩, .string ⟨#[85, 78, 73, 88, 77, 83]⟩, .string ⟨#[85, 78, 73, 88, 77, 73, 67, 82, 79]⟩, .string ⟨#[85, 78, 73, 88, 78, 65, 78, 79]⟩, .string ⟨#[50, 48, 48, 54, 45, 48, 49, 45, 48, 50, 84, 49, 53, 58, 48, 52, 58, 48, 53, 90, 48, 55, 58, 48, 48]⟩, .string ⟨#[50, 48, 48, 54, 45, 48, 49, 45, 48, 50, 84, 49, 53, 58, 48, 52, 58, 48, 53, 46, 57, 57, 57, 57, 57, 57, 57, 57, 57, 90, 48, 55, 58, 48, 48]⟩] 9)
    have hb := hb.alloc (by simp) (.cells #[.string ⟨#[]⟩, .string ⟨#[85, 78, 73, 88, 77, 83]⟩, .string ⟨#[85, 78, 73, 88, 77, 73, 67, 82, 79]⟩, .string ⟨#[85, 78, 73, 88, 78, 65, 78, 79]⟩, .string ⟨#[50, 48, 48, 54, 45, 48, 49, 45, 48, 50, 84, 49, 53, 58, 48, 52, 58, 48, 53, 90, 48, 55, 58, 48, 48]⟩, .string ⟨#[50, 48, 48, 54, 45, 48, 49, 45, 48, 50, 84, 49, 53, 58, 48, 52, 58, 48, 53, 46, 57, 57, 57, 57, 57, 57, 57, 57, 57, 90, 48, 55, 58, 48, 48]⟩] 9)
    have h3 := hb.trans (H3.out.mono (by simp; omega))
    exact ⟨rfl, below_drewN (h3.trans (H4.out.mono h3.size)) _⟩
end Go.Proofs.YtdbnconphcaclaaDoor
