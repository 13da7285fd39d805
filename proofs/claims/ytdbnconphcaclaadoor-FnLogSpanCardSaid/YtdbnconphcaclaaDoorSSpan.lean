/-
  spec.Span: the same text of a duration. Conditions: as each theorem says.
-/
import Derived.Test.YtdbnconphcaclaaDoorLSpan
namespace Go.Proofs.YtdbnconphcaclaaDoor
open Go.RowKit
set_option linter.unusedVariables false

def strLen (v : Value) : Nat := match v with
  | .string s => s.size
  | _ => 0
theorem unsigned_at (n : Nat) (x : Int) (hx : x = n) (hn : n ≤ 18446744073709551615) (w : World) :
    Calls Tryd.prog 29 #[.int .u64 x] w fun e w' => e = .returned (.string ⟨(decs n).toArray⟩) ∧ Below w.heap.size w w' := by
  subst hx
  exact unsigned n hn w
theorem arr_size (l : List UInt8) : (ByteArray.mk l.toArray).size = l.length := by simp [ByteArray.size]

set_option maxRecDepth 100000 in
theorem padded_at (n p : Nat) (x y : Int) (hx : x = n) (hy : y = p) (hn : n ≤ 9223372036854775807) (hp : p ≤ 19) (w : World) :
    Calls Tryd.prog 30 #[.int .i64 x, .int .i64 y] w fun e w' => e = .returned (.string ⟨(padT n p).toArray⟩) ∧ Below w.heap.size w w' := by
  have x0 : 0 ≤ x := by omega
  have x1 : x ≤ 9223372036854775807 := by omega
  have y0 : 0 ≤ y := by omega
  have y1 : y ≤ 19 := by omega
  have H := Lib.hid (And.intro hx (And.intro hy hn))
  clear hx hy hn
  have hdl : (decs n).length ≤ 19 := decs_length 18 n (by have := H.out.2.2; omega)
  go_enter Tryd.func30, Tryd.ntmps30
  go_wp2_with (go_at_call 29; refine (unsigned_at n x H.out.1 (by have := H.out.2.2; omega) _).mono ?_; rintro e w1 ⟨rfl, hb⟩; have HB := Lib.hid hb; clear hb)
  go_loopw [5] (fun s wr => ∃ (j : Nat) (S : ByteArray), s = .string S ∧ S = ⟨(List.replicate j 48 ++ decs n).toArray⟩ ∧ (j = 0 ∨ j + (decs n).length ≤ p) ∧ Below w.heap.size w wr) (fun s _ => 19 - strLen s)
  case atStart => exact ⟨0, _, rfl, by simp, .inl rfl, HB.out⟩
  case round =>
    obtain ⟨j, S, rfl, hS, hj, hbel⟩ := hrel
    have hsz : S.size = j + (decs n).length := by rw [hS, arr_size]; simp
    have hs1 : S.size ≤ 19 := by omega
    by_cases hlt : (S.size : Int) < y
    · have hc := Lib.hid (show (ByteArray.mk #[48]) ++ S = ⟨(List.replicate (j + 1) 48 ++ decs n).toArray⟩ by rw [hS, str_cons, List.replicate_succ]; rfl)
      have HZ := Lib.hid (And.intro hsz (And.intro hj (And.intro hbel hS)))
      clear hsz hj hbel hS
      go_wp2
      go_roundw
      case rel => exact ⟨j + 1, _, rfl, hc.out, .inr (by have := HZ.out.1; have := H.out.2.1; omega), HZ.out.2.2.1⟩
      case measure => simp [strLen, HZ.out.1, hc.out, arr_size]; have := HZ.out.1; omega
    · have HZ := Lib.hid (And.intro hsz (And.intro hj (And.intro hbel hS)))
      clear hsz hj hbel hS
      go_wp2
      go_ret
      refine ⟨?_, HZ.out.2.2.1⟩
      rw [HZ.out.2.2.2]
      unfold padT
      rw [show p - (decs n).length = j by have := HZ.out.1; have := HZ.out.2.1; have := H.out.2.1; omega]
      rfl

theorem pad_pos {r p : Nat} (h : r < 10 ^ p) (h0 : 0 < r) : ∃ k, p = k + 1 := by
  cases p with
  | zero => rw [Nat.pow_zero] at h; omega
  | succ k => exact ⟨k, rfl⟩
theorem pad_fracs (n p r : Nat) (hr : r = n % 10 ^ p) (h0 : 0 < r) : stripz (padT r p) = fracs n p := by
  have hlt : r < 10 ^ p := by rw [hr]; exact Nat.mod_lt _ (Nat.pow_pos (by decide))
  obtain ⟨k, rfl⟩ := pad_pos hlt h0
  rw [padT_eq k r hlt, stripz_fracs, hr, fracs_mod]
theorem pad_len (r p : Nat) (hlt : r < 10 ^ p) (h0 : 0 < r) : (padT r p).length ≤ p := by
  obtain ⟨k, rfl⟩ := pad_pos hlt h0
  rw [padT_eq k r hlt, padz_length]
  exact Nat.le_refl _
theorem last_of (l : List UInt8) (h : stripz l ≠ []) : ∃ m a, l = m ++ [a] := by
  rcases List.eq_nil_or_concat l with rfl | ⟨m, a, rfl⟩
  · exact absurd rfl h
  · exact ⟨m, a, by simp⟩
set_option maxRecDepth 100000 in
theorem part_at (n p : Nat) (N U y : Int) (hN : N = n) (hU : U = (10 ^ p : Nat)) (hy : y = p) (hn : n ≤ 18446744073709551615) (hp : p + 1 ≤ 18) (w : World) :
    Calls Tryd.prog 28 #[.int .u64 N, .int .u64 U, .int .i64 y] w fun e w' => e = .returned (.string ⟨(decs (n / 10 ^ p) ++ fracT n p).toArray⟩) ∧ Below w.heap.size w w' := by
  obtain ⟨q, hq⟩ : ∃ q, q = n / 10 ^ p := ⟨_, rfl⟩
  obtain ⟨r, hr⟩ : ∃ r, r = n % 10 ^ p := ⟨_, rfl⟩
  have hpp : 1 ≤ 10 ^ p := Nat.pos_of_ne_zero (by simp)
  have hp18 : 10 ^ p ≤ 1000000000000000000 := by
    have := Nat.pow_le_pow_right (show 10 > 0 by decide) (show p ≤ 18 by omega)
    simpa using this
  obtain ⟨Q, hQ⟩ : ∃ Q : Int, N / U = Q := ⟨_, rfl⟩
  obtain ⟨R, hR⟩ : ∃ R : Int, N % U = R := ⟨_, rfl⟩
  have q1 : Q = q := by rw [← hQ, hq, hN, hU]; simp
  have r1 : R = r := by rw [← hR, hr, hN, hU]; simp
  have hrl : r < 10 ^ p := by rw [hr]; exact Nat.mod_lt _ (by omega)
  have hql : q ≤ n := by rw [hq]; exact Nat.div_le_self _ _
  have u0 : 1 ≤ U := by omega
  have u1 : U ≤ 1000000000000000000 := by omega
  have uz : (U == 0) = false := by simp; omega
  have n0 : 0 ≤ N := by omega
  have n1 : N ≤ 18446744073709551615 := by omega
  have q2 : 0 ≤ Q := by omega
  have q3 : Q ≤ 18446744073709551615 := by omega
  have r2 : 0 ≤ R := by omega
  have r3 : R ≤ 1000000000000000000 := by omega
  have H := Lib.hid (And.intro q1 (And.intro r1 (And.intro hy (And.intro hn (And.intro hrl hql)))))
  have HE := Lib.hid (And.intro hq hr)
  rw [← hq]
  clear hq hr hpp hp18 q1 r1 hrl hql hN hU hy hn
  by_cases h0 : 0 < R
  · have hfr : fracs n p ≠ [] := fracs_ne (by have := HE.out.2; have := H.out; omega)
    have HF := Lib.hid hfr
    clear hfr
    go_enter Tryd.func28, Tryd.ntmps28
    go_wp2_with (first
      | (go_at_call 30; refine (padded_at r p R y H.out.2.1 H.out.2.2.1 (by have := H.out; omega) (by omega) _).mono ?_; rintro e w2 ⟨rfl, hb2⟩; have HB2 := Lib.hid hb2; clear hb2)
      | (go_at_call 29; refine (unsigned_at q Q H.out.1 (by have := H.out; omega) _).mono ?_; rintro e w1 ⟨rfl, hb1⟩; have HB1 := Lib.hid hb1; clear hb1))
    go_loopw [9] (fun s wr => ∃ (l : List UInt8) (S : ByteArray), s = .string S ∧ S = ⟨l.toArray⟩ ∧ stripz l = fracs n p ∧ l.length ≤ p ∧ Below w.heap.size w wr) (fun s _ => strLen s)
    case atStart => exact ⟨padT r p, _, rfl, rfl, pad_fracs n p r HE.out.2 (by have := H.out; omega), pad_len r p H.out.2.2.2.2.1 (by have := H.out; omega), HB1.out.trans (HB2.out.mono HB1.out.size)⟩
    case round =>
      obtain ⟨l, S, rfl, hS, hl, hlp, hbel⟩ := hrel
      obtain ⟨m, a, rfl⟩ := last_of l (by rw [hl]; exact HF.out)
      have hsz : S.size = m.length + 1 := by rw [hS, arr_size]; simp
      have hs1 : 1 ≤ S.size := by omega
      have hs2 : S.size ≤ 18 := by (simp at hlp); omega
      have hdl : (decs q).length ≤ 20 := decs_length 19 q (by have := H.out; omega)
      have hlast : S[m.length]'(by omega) = a := by
        subst hS
        show (m ++ [a]).toArray[m.length]'_ = a
        simp
      by_cases ha : a = 48
      · have hb : (S[m.length]'(by omega)).toNat = 48 := by rw [hlast, ha]; rfl
        have hx : S.extract 0 m.length = ⟨m.toArray⟩ := by
          apply ByteArray.ext
          rw [hS]
          simp
        have HZ := Lib.hid (And.intro hS (And.intro hl (And.intro hlp (And.intro hbel (And.intro ha (And.intro hlast hx))))))
        clear hS hl hlp hbel ha hlast hx
        go_wp2
        go_roundw
        case rel => exact ⟨m, _, rfl, HZ.out.2.2.2.2.2.2, by rw [← HZ.out.2.1, HZ.out.2.2.2.2.1, stripz_snoc0], by have := HZ.out.2.2.1; simp at this; omega, HZ.out.2.2.2.1⟩
        case measure => simp [strLen]; omega
      · have hb : (((S[m.length]'(by omega)).toNat : Int) == 48) = false := by
          rw [hlast]
          have e48 : (48 : UInt8).toNat = 48 := rfl
          simp
          intro h
          apply ha
          apply UInt8.toNat.inj
          omega
        have hx : (ByteArray.mk (decs q).toArray) ++ ((ByteArray.mk #[46]) ++ S) = ⟨(decs q ++ fracT n p).toArray⟩ := by
          have hfT : fracT n p = 46 :: (m ++ [a]) := by
            unfold fracT
            rw [← hl, stripz_snoc _ _ ha, if_neg (by simp)]
          rw [hS, str_cons, hfT, ByteArray.mk_append_mk]
        have HZ := Lib.hid (And.intro hS (And.intro hl (And.intro hlp (And.intro hbel (And.intro ha (And.intro hlast hx))))))
        clear hS hl hlp hbel ha hlast hx
        go_wp2
        go_ret
        exact ⟨by rw [← HZ.out.2.2.2.2.2.2]; rfl, HZ.out.2.2.2.1⟩
  · have hr0 : R = 0 := by omega
    have hfr : fracT n p = [] := by
      unfold fracT
      rw [if_pos (fracs_nil (by have := HE.out.2; have := H.out; omega))]
    have hdl : (decs q).length ≤ 20 := decs_length 19 q (by have := H.out; omega)
    have HF := Lib.hid hfr
    clear hfr
    go_enter Tryd.func28, Tryd.ntmps28
    go_wp2_with (go_at_call 29; refine (unsigned_at q Q H.out.1 (by have := H.out; omega) _).mono ?_; rintro e w1 ⟨rfl, hb1⟩; have HB1 := Lib.hid hb1; clear hb1)
    go_ret
    exact ⟨by rw [HF.out, List.append_nil]; rfl, HB1.out⟩
theorem ret_str {a b : ByteArray} (h : a = b) : Ending.returned (.string a) = Ending.returned (.string b) := by rw [h]
end Go.Proofs.YtdbnconphcaclaaDoor
