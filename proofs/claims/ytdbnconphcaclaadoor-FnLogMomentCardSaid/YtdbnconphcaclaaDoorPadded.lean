/-
  spec.padded. Conditions: as each theorem says.
-/
import Derived.Test.YtdbnconphcaclaaDoorFloor
namespace Go.Proofs.YtdbnconphcaclaaDoor
open Go.RowKit
set_option linter.unusedVariables false

def strLen (v : Value) : Nat := match v with
  | .string s => s.size
  | _ => 0
theorem unsigned_at (n : Nat) (x : Int) (hx : x = n) (hn : n ≤ 18446744073709551615) (w : World) :
    Calls Tryd.prog 29 #[.int .u64 x] w fun e w' => e = .returned (.string ⟨(decs n).toArray⟩) ∧ Below w.heap.size w w' := by
  subst hx
  exact unsigned n hn w
theorem arr_size (l : List UInt8) : (ByteArray.mk l.toArray).size = l.length := by simp [ByteArray.size]

set_option maxRecDepth 100000 in
theorem padded_at (n p : Nat) (x y : Int) (hx : x = n) (hy : y = p) (hn : n ≤ 9223372036854775807) (hp : p ≤ 19) (w : World) :
    Calls Tryd.prog 30 #[.int .i64 x, .int .i64 y] w fun e w' => e = .returned (.string ⟨(padT n p).toArray⟩) ∧ Below w.heap.size w w' := by
  have x0 : 0 ≤ x := by omega
  have x1 : x ≤ 9223372036854775807 := by omega
  have y0 : 0 ≤ y := by omega
  have y1 : y ≤ 19 := by omega
  have H := Lib.hid (And.intro hx (And.intro hy hn))
  clear hx hy hn
  have hdl : (decs n).length ≤ 19 := decs_length 18 n (by have := H.out.2.2; omega)
  go_enter Tryd.func30, Tryd.ntmps30
  go_wp2_with (go_at_call 29; refine (unsigned_at n x H.out.1 (by have := H.out.2.2; omega) _).mono ?_; rintro e w1 ⟨rfl, hb⟩; have HB := Lib.hid hb; clear hb)
  go_loopw [5] (fun s wr => ∃ (j : Nat) (S : ByteArray), s = .string S ∧ S = ⟨(List.replicate j 48 ++ decs n).toArray⟩ ∧ (j = 0 ∨ j + (decs n).length ≤ p) ∧ Below w.heap.size w wr) (fun s _ => 19 - strLen s)
  case atStart => exact ⟨0, _, rfl, by simp, .inl rfl, HB.out⟩
  case round =>
    obtain ⟨j, S, rfl, hS, hj, hbel⟩ := hrel
    have hsz : S.size = j + (decs n).length := by rw [hS, arr_size]; simp
    have hs1 : S.size ≤ 19 := by omega
    by_cases hlt : (S.size : Int) < y
    · have hc := Lib.hid (show (ByteArray.mk #[48]) ++ S = ⟨(List.replicate (j + 1) 48 ++ decs n).toArray⟩ by rw [hS, str_cons, List.replicate_succ]; rfl)
      have HZ := Lib.hid (And.intro hsz (And.intro hj (And.intro hbel hS)))
      clear hsz hj hbel hS
      go_wp2
      go_roundw
      case rel => exact ⟨j + 1, _, rfl, hc.out, .inr (by have := HZ.out.1; have := H.out.2.1; omega), HZ.out.2.2.1⟩
      case measure => simp [strLen, HZ.out.1, hc.out, arr_size]; have := HZ.out.1; omega
    · have HZ := Lib.hid (And.intro hsz (And.intro hj (And.intro hbel hS)))
      clear hsz hj hbel hS
      go_wp2
      go_ret
      refine ⟨?_, HZ.out.2.2.1⟩
      rw [HZ.out.2.2.2]
      unfold padT
      rw [show p - (decs n).length = j by have := HZ.out.1; have := HZ.out.2.1; have := H.out.2.1; omega]
      rfl

theorem pad_pos {r p : Nat} (h : r < 10 ^ p) (h0 : 0 < r) : ∃ k, p = k + 1 := by
  cases p with
  | zero => rw [Nat.pow_zero] at h; omega
  | succ k => exact ⟨k, rfl⟩
theorem pad_fracs (n p r : Nat) (hr : r = n % 10 ^ p) (h0 : 0 < r) : stripz (padT r p) = fracs n p := by
  have hlt : r < 10 ^ p := by rw [hr]; exact Nat.mod_lt _ (Nat.pow_pos (by decide))
  obtain ⟨k, rfl⟩ := pad_pos hlt h0
  rw [padT_eq k r hlt, stripz_fracs, hr, fracs_mod]
theorem pad_len (r p : Nat) (hlt : r < 10 ^ p) (h0 : 0 < r) : (padT r p).length ≤ p := by
  obtain ⟨k, rfl⟩ := pad_pos hlt h0
  rw [padT_eq k r hlt, padz_length]
  exact Nat.le_refl _
theorem padded_t (T : List UInt8) (n p : Nat) (x y : Int) (hT : T = padT n p) (hx : x = n) (hy : y = p) (hn : n ≤ 9223372036854775807) (hp : p ≤ 19) (w : World) :
    Calls Tryd.prog 30 #[.int .i64 x, .int .i64 y] w fun e w' => e = .returned (.string ⟨T.toArray⟩) ∧ Below w.heap.size w w' := by
  subst hT
  exact padded_at n p x y hx hy hn hp w
theorem named (l : List UInt8) (h : l.length ≤ 30) : ∃ T, T = l ∧ T.length ≤ 30 := ⟨l, rfl, h⟩
theorem padT_length (n p : Nat) (hp : p ≤ 19) (hn : n ≤ 9223372036854775807) : (padT n p).length ≤ 30 := by
  unfold padT
  rw [List.length_append, List.length_replicate]
  have := decs_length 18 n (by omega)
  omega
theorem ret_str {a b : ByteArray} (h : a = b) : Ending.returned (.string a) = Ending.returned (.string b) := by rw [h]
end Go.Proofs.YtdbnconphcaclaaDoor
