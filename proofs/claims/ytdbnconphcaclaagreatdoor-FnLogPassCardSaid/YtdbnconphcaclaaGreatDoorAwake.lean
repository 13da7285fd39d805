/-
  What 'awake' needs: zzEqualFold, Level.String, ParseLevel and the two functions of impl over them, at the texts of the nine levels; awake returns true. Conditions: none.
-/
import Derived.Test.YtdbnconphcaclaaGreatDoorProg
import Derived.WalkKit
import Derived.WalkSpells
import Derived.WalkLawsBesides
import Derived.Deep.QuietTactic
import Derived.BigQuiet
import Derived.Lib.Hide
import Derived.OpenShut
namespace Go.Proofs.YtdbnconphcaclaaGreatDoor
open Go.RowKit
set_option linter.unusedVariables false

/-- A letter of ASCII made small. -/
def low (c : UInt8) : Nat := if 65 ≤ c.toNat ∧ c.toNat ≤ 90 then c.toNat + 32 else c.toNat
/-- Equality under folding, up to a place. -/
def eqTo (s t : ByteArray) : Nat → Bool
  | 0 => true
  | k + 1 => eqTo s t k && (low (s.data.toList.getD k 0) == low (t.data.toList.getD k 0))
def eqf (s t : ByteArray) : Bool := decide (s.size = t.size) && eqTo s t s.size

theorem eqTo_false {s t : ByteArray} {k : Nat} (h : eqTo s t k = false) : ∀ {n : Nat}, k ≤ n → eqTo s t n = false := by
  intro n hn
  induction n with
  | zero =>
    have : k = 0 := by omega
    subst this
    exact h
  | succ n ih =>
    by_cases e : k = n + 1
    · subst e; exact h
    · simp [eqTo, ih (by omega)]

theorem getD_of_lt (s : ByteArray) (k : Nat) (h : k < s.size) : s.data.toList.getD k 0 = s[k] := by
  have h' : k < s.data.toList.length := by simpa using h
  rw [List.getD_eq_getElem?_getD, List.getElem?_eq_getElem h']
  rfl

theorem eqTo_succ (s t : ByteArray) (k : Nat) (hs : k < s.size) (ht : k < t.size) : eqTo s t (k + 1) = (eqTo s t k && (low s[k] == low t[k])) := by
  rw [eqTo, getD_of_lt s k hs, getD_of_lt t k ht]

theorem ret_bool {a b : Bool} (h : a = b) : Ending.returned (.bool a) = .returned (.bool b) := by rw [h]
theorem bne_t {a b : Int} (h : (a != b) = true) : a ≠ b := by simpa using h
theorem bne_f {a b : Int} (h : (a != b) = false) : a = b := by simpa using h
theorem low_ne {a b : UInt8} (h : (65 ≤ (a.toNat : Int) ∧ (a.toNat : Int) ≤ 90 ∧ ((65 ≤ (b.toNat : Int) ∧ (b.toNat : Int) ≤ 90 ∧ (a.toNat : Int) + 32 ≠ b.toNat + 32) ∨ (¬ (65 ≤ (b.toNat : Int) ∧ (b.toNat : Int) ≤ 90) ∧ (a.toNat : Int) + 32 ≠ b.toNat))) ∨
    (¬ (65 ≤ (a.toNat : Int) ∧ (a.toNat : Int) ≤ 90) ∧ ((65 ≤ (b.toNat : Int) ∧ (b.toNat : Int) ≤ 90 ∧ (a.toNat : Int) ≠ b.toNat + 32) ∨ (¬ (65 ≤ (b.toNat : Int) ∧ (b.toNat : Int) ≤ 90) ∧ (a.toNat : Int) ≠ b.toNat)))) : low a ≠ low b := by
  unfold low
  split <;> split <;> omega
theorem low_eq {a b : UInt8} (h : (65 ≤ (a.toNat : Int) ∧ (a.toNat : Int) ≤ 90 ∧ ((65 ≤ (b.toNat : Int) ∧ (b.toNat : Int) ≤ 90 ∧ (a.toNat : Int) + 32 = b.toNat + 32) ∨ (¬ (65 ≤ (b.toNat : Int) ∧ (b.toNat : Int) ≤ 90) ∧ (a.toNat : Int) + 32 = b.toNat))) ∨
    (¬ (65 ≤ (a.toNat : Int) ∧ (a.toNat : Int) ≤ 90) ∧ ((65 ≤ (b.toNat : Int) ∧ (b.toNat : Int) ≤ 90 ∧ (a.toNat : Int) = b.toNat + 32) ∨ (¬ (65 ≤ (b.toNat : Int) ∧ (b.toNat : Int) ≤ 90) ∧ (a.toNat : Int) = b.toNat)))) : low a = low b := by
  unfold low
  split <;> split <;> omega
theorem eqf_no {s t : ByteArray} {k : Nat} (hs : k < s.size) (ht : k < t.size) (h : low s[k] ≠ low t[k]) : eqf s t = false := by
  have : eqTo s t (k + 1) = false := by rw [eqTo_succ s t k hs ht]; simp [h]
  simp [eqf, eqTo_false this (show k + 1 ≤ s.size by omega)]

/-- WHAT A CALL THAT ONLY READS LEAVES: its value; the world but for draws. -/
def Qret (v : Value) (w : World) (e : Ending) (w' : World) : Prop := e = .returned v ∧ ∃ n, w' = w.drewN n

set_option maxHeartbeats 400000 in
theorem eqf_any (s t : ByteArray) (w : World) (hs : s.size ≤ maxLen) (ht : t.size ≤ maxLen) :
    Calls Tryz.prog 27 #[.string s, .string t] w (Qret (.bool (eqf s t)) w) := by
  unfold maxLen at hs ht
  by_cases hst : s.size = t.size
  · have hne : ((s.size : Int) != (t.size : Int)) = false := by simp [hst]
    have HST := Lib.hid hst
    have hle : t.size ≤ s.size := by omega
    have hge : s.size ≤ t.size := by omega
    clear hst
    go_enter Tryz.func27, Tryz.ntmps27
    go_wp2
    go_loopw [15] (fun i wr => ∃ k n : Nat, k ≤ s.size ∧ i = .int .i64 k ∧ eqTo s t k = true ∧ wr = w.drewN n) (fun i _ => s.size - (intOf i).toNat)
    case atStart => exact ⟨0, 0, Nat.zero_le _, rfl, rfl, rfl⟩
    case round =>
      obtain ⟨k, n, hk, rfl, hto, rfl⟩ := hrel
      clear hne
      have HTO := Lib.hid hto
      clear hto
      by_cases hlt : k < s.size
      · have hltT : k < t.size := by omega
        go_wp2
        go_quiet (fail)
        go_wp2
        all_goals first
          | (have h := bne_t ‹((_ : Int) != _) = true›
             have hl : low s[k] ≠ low t[k] := low_ne (by omega)
             go_ret
             exact ⟨ret_bool (eqf_no hlt hltT hl).symm, _, rfl⟩)
          | (have h := bne_f ‹((_ : Int) != _) = false›
             have hl : low s[k] = low t[k] := low_eq (by omega)
             go_roundw
             case rel => exact ⟨k + 1, _, by omega, by go_num, by rw [eqTo_succ s t k hlt hltT, HTO.out, hl]; simp, rfl⟩
             case measure => simp [intOf]; omega)
      · go_wp2
        go_ret
        have : k = s.size := by omega
        subst this
        exact ⟨ret_bool (show true = eqf s t by unfold eqf; rw [HTO.out]; simp [HST.out]), n, rfl⟩
  · have hne : ((s.size : Int) != (t.size : Int)) = true := by simp; omega
    have HST := Lib.hid hst
    clear hst
    go_enter Tryz.func27, Tryz.ntmps27
    go_wp2
    go_ret
    exact ⟨by simp [eqf, HST.out], 0, rfl⟩

/-- The texts of the levels. -/
def lname : Int → List UInt8
  | -1 => [116, 114, 97, 99, 101]
  | 0 => [100, 101, 98, 117, 103]
  | 1 => [105, 110, 102, 111]
  | 2 => [119, 97, 114, 110]
  | 3 => [101, 114, 114, 111, 114]
  | 4 => [102, 97, 116, 97, 108]
  | 5 => [112, 97, 110, 105, 99]
  | 7 => [100, 105, 115, 97, 98, 108, 101, 100]
  | _ => []
def lstr (l : Int) : ByteArray := ⟨(lname l).toArray⟩

theorem level_string (l : Int) (w : World) (h0 : -1 ≤ l) (h1 : l ≤ 7) :
    Calls Tryz.prog 22 #[.int .i8 l] w fun e w' => e = .returned (.string (lstr l)) ∧ w = w' := by
  have hl : l = -1 ∨ l = 0 ∨ l = 1 ∨ l = 2 ∨ l = 3 ∨ l = 4 ∨ l = 5 ∨ l = 6 ∨ l = 7 := by omega
  rcases hl with rfl | rfl | rfl | rfl | rfl | rfl | rfl | rfl | rfl
  all_goals
    go_enter Tryz.func22, Tryz.ntmps22
    go_wp2
    go_ret
    exact ⟨rfl, rfl⟩

theorem lstr_size (l : Int) : (lstr l).size ≤ maxLen := by
  have : (lname l).length ≤ 8 := by unfold lname; split <;> decide
  show (lname l).toArray.size ≤ maxLen
  unfold maxLen
  simp
  omega

set_option maxHeartbeats 1000000 in
theorem parse_level (l : Int) (w : World) (h0 : -1 ≤ l) (h1 : l ≤ 7) :
    Calls Tryz.prog 21 #[.string (lstr l)] w (Qret (.tuple #[.int .i8 l, .nilIface]) w) := by
  have hl : l = -1 ∨ l = 0 ∨ l = 1 ∨ l = 2 ∨ l = 3 ∨ l = 4 ∨ l = 5 ∨ l = 6 ∨ l = 7 := by omega
  rcases hl with rfl | rfl | rfl | rfl | rfl | rfl | rfl | rfl | rfl
  · have e0 : eqf (lstr (-1)) (lstr (-1)) = true := by decide
    have e1 : eqf (lstr (-1)) (lstr (0)) = false := by decide
    have e2 : eqf (lstr (-1)) (lstr (1)) = false := by decide
    have e3 : eqf (lstr (-1)) (lstr (2)) = false := by decide
    have e4 : eqf (lstr (-1)) (lstr (3)) = false := by decide
    have e5 : eqf (lstr (-1)) (lstr (4)) = false := by decide
    have e6 : eqf (lstr (-1)) (lstr (5)) = false := by decide
    have e7 : eqf (lstr (-1)) (lstr (7)) = false := by decide
    have e8 : eqf (lstr (-1)) (lstr (6)) = false := by decide
    go_enter Tryz.func21, Tryz.ntmps21
    go_wp2_with (first | (go_at_call 22; refine (level_string _ _ (by decide) (by decide)).mono ?_; rintro e w' ⟨rfl, rfl⟩) | (go_at_call 27; refine (eqf_any _ _ _ (lstr_size _) (lstr_size _)).mono ?_; rintro e w' ⟨rfl, n, rfl⟩))
    go_ret2
    exact ⟨rfl, _, rfl⟩
  · have e0 : eqf (lstr (0)) (lstr (-1)) = false := by decide
    have e1 : eqf (lstr (0)) (lstr (0)) = true := by decide
    have e2 : eqf (lstr (0)) (lstr (1)) = false := by decide
    have e3 : eqf (lstr (0)) (lstr (2)) = false := by decide
    have e4 : eqf (lstr (0)) (lstr (3)) = false := by decide
    have e5 : eqf (lstr (0)) (lstr (4)) = false := by decide
    have e6 : eqf (lstr (0)) (lstr (5)) = false := by decide
    have e7 : eqf (lstr (0)) (lstr (7)) = false := by decide
    have e8 : eqf (lstr (0)) (lstr (6)) = false := by decide
    go_enter Tryz.func21, Tryz.ntmps21
    go_wp2_with (first | (go_at_call 22; refine (level_string _ _ (by decide) (by decide)).mono ?_; rintro e w' ⟨rfl, rfl⟩) | (go_at_call 27; refine (eqf_any _ _ _ (lstr_size _) (lstr_size _)).mono ?_; rintro e w' ⟨rfl, n, rfl⟩))
    go_ret2
    exact ⟨rfl, _, rfl⟩
  · have e0 : eqf (lstr (1)) (lstr (-1)) = false := by decide
    have e1 : eqf (lstr (1)) (lstr (0)) = false := by decide
    have e2 : eqf (lstr (1)) (lstr (1)) = true := by decide
    have e3 : eqf (lstr (1)) (lstr (2)) = false := by decide
    have e4 : eqf (lstr (1)) (lstr (3)) = false := by decide
    have e5 : eqf (lstr (1)) (lstr (4)) = false := by decide
    have e6 : eqf (lstr (1)) (lstr (5)) = false := by decide
    have e7 : eqf (lstr (1)) (lstr (7)) = false := by decide
    have e8 : eqf (lstr (1)) (lstr (6)) = false := by decide
    go_enter Tryz.func21, Tryz.ntmps21
    go_wp2_with (first | (go_at_call 22; refine (level_string _ _ (by decide) (by decide)).mono ?_; rintro e w' ⟨rfl, rfl⟩) | (go_at_call 27; refine (eqf_any _ _ _ (lstr_size _) (lstr_size _)).mono ?_; rintro e w' ⟨rfl, n, rfl⟩))
    go_ret2
    exact ⟨rfl, _, rfl⟩
  · have e0 : eqf (lstr (2)) (lstr (-1)) = false := by decide
    have e1 : eqf (lstr (2)) (lstr (0)) = false := by decide
    have e2 : eqf (lstr (2)) (lstr (1)) = false := by decide
    have e3 : eqf (lstr (2)) (lstr (2)) = true := by decide
    have e4 : eqf (lstr (2)) (lstr (3)) = false := by decide
    have e5 : eqf (lstr (2)) (lstr (4)) = false := by decide
    have e6 : eqf (lstr (2)) (lstr (5)) = false := by decide
    have e7 : eqf (lstr (2)) (lstr (7)) = false := by decide
    have e8 : eqf (lstr (2)) (lstr (6)) = false := by decide
    go_enter Tryz.func21, Tryz.ntmps21
    go_wp2_with (first | (go_at_call 22; refine (level_string _ _ (by decide) (by decide)).mono ?_; rintro e w' ⟨rfl, rfl⟩) | (go_at_call 27; refine (eqf_any _ _ _ (lstr_size _) (lstr_size _)).mono ?_; rintro e w' ⟨rfl, n, rfl⟩))
    go_ret2
    exact ⟨rfl, _, rfl⟩
  · have e0 : eqf (lstr (3)) (lstr (-1)) = false := by decide
    have e1 : eqf (lstr (3)) (lstr (0)) = false := by decide
    have e2 : eqf (lstr (3)) (lstr (1)) = false := by decide
    have e3 : eqf (lstr (3)) (lstr (2)) = false := by decide
    have e4 : eqf (lstr (3)) (lstr (3)) = true := by decide
    have e5 : eqf (lstr (3)) (lstr (4)) = false := by decide
    have e6 : eqf (lstr (3)) (lstr (5)) = false := by decide
    have e7 : eqf (lstr (3)) (lstr (7)) = false := by decide
    have e8 : eqf (lstr (3)) (lstr (6)) = false := by decide
    go_enter Tryz.func21, Tryz.ntmps21
    go_wp2_with (first | (go_at_call 22; refine (level_string _ _ (by decide) (by decide)).mono ?_; rintro e w' ⟨rfl, rfl⟩) | (go_at_call 27; refine (eqf_any _ _ _ (lstr_size _) (lstr_size _)).mono ?_; rintro e w' ⟨rfl, n, rfl⟩))
    go_ret2
    exact ⟨rfl, _, rfl⟩
  · have e0 : eqf (lstr (4)) (lstr (-1)) = false := by decide
    have e1 : eqf (lstr (4)) (lstr (0)) = false := by decide
    have e2 : eqf (lstr (4)) (lstr (1)) = false := by decide
    have e3 : eqf (lstr (4)) (lstr (2)) = false := by decide
    have e4 : eqf (lstr (4)) (lstr (3)) = false := by decide
    have e5 : eqf (lstr (4)) (lstr (4)) = true := by decide
    have e6 : eqf (lstr (4)) (lstr (5)) = false := by decide
    have e7 : eqf (lstr (4)) (lstr (7)) = false := by decide
    have e8 : eqf (lstr (4)) (lstr (6)) = false := by decide
    go_enter Tryz.func21, Tryz.ntmps21
    go_wp2_with (first | (go_at_call 22; refine (level_string _ _ (by decide) (by decide)).mono ?_; rintro e w' ⟨rfl, rfl⟩) | (go_at_call 27; refine (eqf_any _ _ _ (lstr_size _) (lstr_size _)).mono ?_; rintro e w' ⟨rfl, n, rfl⟩))
    go_ret2
    exact ⟨rfl, _, rfl⟩
  · have e0 : eqf (lstr (5)) (lstr (-1)) = false := by decide
    have e1 : eqf (lstr (5)) (lstr (0)) = false := by decide
    have e2 : eqf (lstr (5)) (lstr (1)) = false := by decide
    have e3 : eqf (lstr (5)) (lstr (2)) = false := by decide
    have e4 : eqf (lstr (5)) (lstr (3)) = false := by decide
    have e5 : eqf (lstr (5)) (lstr (4)) = false := by decide
    have e6 : eqf (lstr (5)) (lstr (5)) = true := by decide
    have e7 : eqf (lstr (5)) (lstr (7)) = false := by decide
    have e8 : eqf (lstr (5)) (lstr (6)) = false := by decide
    go_enter Tryz.func21, Tryz.ntmps21
    go_wp2_with (first | (go_at_call 22; refine (level_string _ _ (by decide) (by decide)).mono ?_; rintro e w' ⟨rfl, rfl⟩) | (go_at_call 27; refine (eqf_any _ _ _ (lstr_size _) (lstr_size _)).mono ?_; rintro e w' ⟨rfl, n, rfl⟩))
    go_ret2
    exact ⟨rfl, _, rfl⟩
  · have e0 : eqf (lstr (6)) (lstr (-1)) = false := by decide
    have e1 : eqf (lstr (6)) (lstr (0)) = false := by decide
    have e2 : eqf (lstr (6)) (lstr (1)) = false := by decide
    have e3 : eqf (lstr (6)) (lstr (2)) = false := by decide
    have e4 : eqf (lstr (6)) (lstr (3)) = false := by decide
    have e5 : eqf (lstr (6)) (lstr (4)) = false := by decide
    have e6 : eqf (lstr (6)) (lstr (5)) = false := by decide
    have e7 : eqf (lstr (6)) (lstr (7)) = false := by decide
    have e8 : eqf (lstr (6)) (lstr (6)) = true := by decide
    go_enter Tryz.func21, Tryz.ntmps21
    go_wp2_with (first | (go_at_call 22; refine (level_string _ _ (by decide) (by decide)).mono ?_; rintro e w' ⟨rfl, rfl⟩) | (go_at_call 27; refine (eqf_any _ _ _ (lstr_size _) (lstr_size _)).mono ?_; rintro e w' ⟨rfl, n, rfl⟩))
    go_ret2
    exact ⟨rfl, _, rfl⟩
  · have e0 : eqf (lstr (7)) (lstr (-1)) = false := by decide
    have e1 : eqf (lstr (7)) (lstr (0)) = false := by decide
    have e2 : eqf (lstr (7)) (lstr (1)) = false := by decide
    have e3 : eqf (lstr (7)) (lstr (2)) = false := by decide
    have e4 : eqf (lstr (7)) (lstr (3)) = false := by decide
    have e5 : eqf (lstr (7)) (lstr (4)) = false := by decide
    have e6 : eqf (lstr (7)) (lstr (5)) = false := by decide
    have e7 : eqf (lstr (7)) (lstr (7)) = true := by decide
    have e8 : eqf (lstr (7)) (lstr (6)) = false := by decide
    go_enter Tryz.func21, Tryz.ntmps21
    go_wp2_with (first | (go_at_call 22; refine (level_string _ _ (by decide) (by decide)).mono ?_; rintro e w' ⟨rfl, rfl⟩) | (go_at_call 27; refine (eqf_any _ _ _ (lstr_size _) (lstr_size _)).mono ?_; rintro e w' ⟨rfl, n, rfl⟩))
    go_ret2
    exact ⟨rfl, _, rfl⟩

theorem lparse (l : Int) (w : World) (h0 : -1 ≤ l) (h1 : l ≤ 7) :
    Calls Tryz.prog 11 #[.string (lstr l)] w (Qret (.tuple #[.int .i64 l, .bool true]) w) := by
  go_enter Tryz.func11, Tryz.ntmps11
  go_wp2_with (go_at_call 21; refine (parse_level _ _ h0 h1).mono ?_; rintro e w' ⟨rfl, n, rfl⟩)
  go_ret2
  exact ⟨rfl, _, rfl⟩

theorem llevel (l : Int) (w : World) (h0 : -1 ≤ l) (h1 : l ≤ 7) :
    Calls Tryz.prog 12 #[.int .i64 l] w fun e w' => e = .returned (.string (lstr l)) ∧ w = w' := by
  go_enter Tryz.func12, Tryz.ntmps12
  go_wp2_with (go_at_call 22; refine (level_string _ _ h0 h1).mono ?_; rintro e w' ⟨rfl, rfl⟩)
  go_ret
  exact ⟨rfl, rfl⟩

theorem awake_any (w : World) : Calls Tryz.prog 5 #[] w (Qret (.bool true) w) := by
  have e1 : ((lstr 1).toList == [105, 110, 102, 111]) = true := by rw [ByteArray.toList_eq]; decide
  go_enter Tryz.func5, Tryz.ntmps5
  go_wp2_with (first | (go_at_call 11; refine (lparse 1 _ (by decide) (by decide)).mono ?_; rintro e w' ⟨rfl, n, rfl⟩) | (go_at_call 12; refine (llevel 1 _ (by decide) (by decide)).mono ?_; rintro e w' ⟨rfl, rfl⟩))
  go_ret
  exact ⟨rfl, _, rfl⟩

end Go.Proofs.YtdbnconphcaclaaGreatDoor
