/-
  package time's appendNano. Conditions: as each theorem says.
-/
import Derived.Test.YtdbnconphcaclaaDoorApp9
namespace Go.Proofs.YtdbnconphcaclaaDoor
open Go.RowKit
set_option linter.unusedVariables false

theorem and_i64a : bits .and .i64 589859 65535 = 35 := by decide +kernel
theorem and_i64b : bits .and .i64 9 4095 = 9 := by decide +kernel
theorem or_i64a : bits .or .i64 35 589824 = 589859 := by decide +kernel
theorem ret_int {a b : Int} {k : IntKind} (h : a = b) : Ending.returned (.int k a) = Ending.returned (.int k b) := by rw [h]
set_option maxRecDepth 100000 in
theorem stdfrac (w : World) : Calls Tryd.prog 95 #[.int .i64 35, .int .i64 9, .int .i64 46] w fun e w' => e = .returned (.int .i64 589859) ∧ w' = w := by
  have h1 := and_i64b
  have h2 := or_i64a
  go_enter Tryd.func95, Tryd.ntmps95
  go_wp2
  go_ret
  exact ⟨ret_int (by decide +kernel), rfl⟩
set_option maxRecDepth 100000 in
theorem digitslen (w : World) : Calls Tryd.prog 120 #[.int .i64 589859] w fun e w' => e = .returned (.int .i64 9) ∧ w' = w := by
  go_enter Tryd.func120, Tryd.ntmps120
  go_wp2
  go_ret
  exact ⟨ret_int (by decide +kernel), rfl⟩
set_option maxRecDepth 100000 in
theorem separator_ (w : World) : Calls Tryd.prog 121 #[.int .i64 589859] w fun e w' => e = .returned (.int .u8 46) ∧ w' = w := by
  go_enter Tryd.func121, Tryd.ntmps121
  go_wp2
  go_ret
  exact ⟨rfl, rfl⟩
theorem BH.last {w : World} {g n : Nat} {l : List UInt8} {a : UInt8} (h : BH w g n (l ++ [a])) : n = l.length + 1 ∧ w.cell? ⟨g, l.length, none⟩ = some (.int .u8 a.toNat) ∧ BH w g l.length l := by
  obtain ⟨h1, T, cs, hb, hs, ht⟩ := h
  rw [List.length_append, List.length_singleton] at h1
  subst h1
  rw [bytesV_append] at ht
  refine ⟨rfl, ?_, rfl, T, cs, hb, hs, ?_⟩
  · rw [hb.cell, ← Array.getElem?_toList]
    have := congrArg (fun L => L[l.length]?) ht
    simp only [List.getElem?_take] at this
    rw [if_pos (by omega)] at this
    rw [this, List.getElem?_append_right (by rw [bytesV_length]; exact Nat.le_refl _), bytesV_length, Nat.sub_self]
    rfl
  · have := congrArg (fun L => L.take l.length) ht
    simp only [List.take_take] at this
    rw [Nat.min_eq_left (by omega)] at this
    rw [this, List.take_left' (bytesV_length l)]
theorem fracs_digit (v p : Nat) : ∀ a ∈ fracs v p, 48 ≤ a.toNat := by
  induction p with
  | zero => intro a ha; simp [fracs] at ha
  | succ p ih =>
    intro a ha
    simp only [fracs] at ha
    split at ha
    · rcases List.mem_cons.1 ha with rfl | h
      · rw [dig_toNat]; omega
      · exact ih a h
    · simp at ha
theorem last_of (l : List UInt8) (h : stripz l ≠ []) : ∃ m a, l = m ++ [a] := by
  rcases List.eq_nil_or_concat l with rfl | ⟨m, a, rfl⟩
  · exact absurd rfl h
  · exact ⟨m, a, by simp⟩
def sliceLen (v : Value) : Nat := match v with
  | .slice _ n _ => n
  | _ => 0
set_option maxRecDepth 100000 in
theorem appnano (g n v : Nat) (l : List UInt8) (x : Int) (hx : x = v) (hv : v ≤ 999999999) (w : World) (hb : BH w g n l) (hn : n + 10 ≤ 64) :
    Calls Tryd.prog 96 #[.slice (some ⟨g, 0, none⟩) n 64, .int .i64 x, .int .i64 589859] w fun e w' => ∃ n', e = .returned (.slice (some ⟨g, 0, none⟩) n' 64) ∧ n' = n + (fracT v 9).length ∧ BH w' g n' (l ++ fracT v 9) ∧ w.grownBy w' (some g) := by
  have ha := and_i64a
  by_cases h0 : x = 0
  · subst h0
    have hv0 : v = 0 := by omega
    have hf : fracT v 9 = [] := by
      subst hv0
      unfold fracT
      rw [if_pos (fracs_nil (by simp))]
    have HF := Lib.hid (And.intro hf hb)
    clear hf hb hx hv0
    go_enter Tryd.func96, Tryd.ntmps96
    go_wp2_with (first
      | (go_at_call 120; refine (digitslen _).mono ?_; rintro e w1 ⟨rfl, rfl⟩)
      | (go_at_call 121; refine (separator_ _).mono ?_; rintro e w1 ⟨rfl, rfl⟩))
    go_ret
    exact ⟨n, rfl, by rw [HF.out.1]; rfl, by rw [HF.out.1, List.append_nil]; exact HF.out.2, World.grownBy.refl _ _⟩
  · have e0 : (x == 0) = false := by simp; omega
    have x0 : 1 ≤ x := by omega
    have x1 : x ≤ 999999999 := by omega
    obtain ⟨u0, y0⟩ := hb.cellA n (by omega)
    have z0 := hb.frozenA n
    have hfr : fracs v 9 ≠ [] := fracs_ne (by omega)
    have HF := Lib.hid (And.intro hb (And.intro hfr hx))
    clear hb hfr hx
    go_enter Tryd.func96, Tryd.ntmps96
    go_wp2_with (first
      | (go_at_call 120; refine (digitslen _).mono ?_; rintro e w1 ⟨rfl, rfl⟩)
      | (go_at_call 121; refine (separator_ _).mono ?_; rintro e w1 ⟨rfl, rfl⟩)
      | (go_at_call 93; refine (appint9 g (n + 1) v (l ++ [46]) x HF.out.2.2 hv (by have := HF.out.2.2; omega) _ ((HF.out.1.alloc _).put 46 46 rfl (by omega) _ _ rfl rfl) (by omega)).mono ?_; rintro e w2 ⟨rfl, hb2, hg2⟩; have H2 := Lib.hid (And.intro hb2 hg2); clear hb2 hg2 y0 z0))
    go_loop [0] (fun b => ∃ (t : List UInt8) (k : Nat), k = t.length ∧ b = .slice (some ⟨g, 0, none⟩) (n + 1 + k) 64 ∧ stripz t = fracs v 9 ∧ k ≤ 9 ∧ BH w2 g (n + 1 + k) (l ++ [46] ++ t)) (fun b => sliceLen b)
    case atStart => exact ⟨padT v 9, 9, by rw [padT_eq 8 v (by omega), padz_length], rfl, by rw [padT_eq 8 v (by omega), stripz_fracs], Nat.le_refl _, H2.out.1⟩
    case round =>
      obtain ⟨t, k, hk, rfl, hst, hk9, hbt⟩ := hrel
      obtain ⟨m, a, rfl⟩ := last_of t (by rw [hst]; exact HF.out.2.1)
      obtain ⟨j, hj⟩ : ∃ j, j = m.length := ⟨_, rfl⟩
      have hkj : k = j + 1 := by rw [hk, hj]; exact List.length_append
      subst hkj
      have hln : l.length = n := HF.out.1.1
      have hll : (l ++ [46] ++ m).length = n + 1 + j := by simp [hln, hj]; omega
      rw [← List.append_assoc] at hbt
      obtain ⟨-, yc, hbm⟩ := hbt.last
      rw [hll] at yc hbm
      have zc := hbt.frozen (n + 1 + j)
      by_cases ha : a = 48
      · have hb48 : a.toNat = 48 := by rw [ha]; rfl
        have HZ := Lib.hid (And.intro hj (And.intro hst (And.intro ha hbm)))
        clear hj hst ha hbm hk hbt hll hln
        go_wp2
        go_round
        case rel => exact ⟨m, j, HZ.out.1, by rfl, by rw [← HZ.out.2.1, HZ.out.2.2.1, stripz_snoc0], by omega, HZ.out.2.2.2⟩
        case measure => simp [sliceLen]
      · have hb48 : ((a.toNat : Int) == 48) = false := by
          have e48 : (48 : UInt8).toNat = 48 := rfl
          simp
          intro h
          exact ha (UInt8.toNat.inj (by omega))
        have hst2 : m ++ [a] = fracs v 9 := by rw [← hst, stripz_snoc _ _ ha]
        have hb46 : ((a.toNat : Int) == 46) = false := by
          have := fracs_digit v 9 a (by rw [← hst2]; simp)
          simp
          omega
        have hfT : fracT v 9 = 46 :: (m ++ [a]) := by
          unfold fracT
          rw [if_neg HF.out.2.1, ← hst2]
        have HZ := Lib.hid (And.intro hj (And.intro hfT hbt))
        clear hj hst ha hbm hk hbt hll hln hst2 hfT
        go_wp2
        go_ret
        refine ⟨n + 1 + (j + 1), rfl, by rw [HZ.out.2.1]; simp [HZ.out.1]; omega, ?_, grown_g (only_at (only_alloc (World.grownBy.refl _ _) _) _ _) H2.out.2⟩
        rw [HZ.out.2.1]
        have := HZ.out.2.2
        simpa using this
end Go.Proofs.YtdbnconphcaclaaDoor
