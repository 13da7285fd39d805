/-
  spec's reader of JSON: four hexadecimal digits. Conditions: four digits stand there, small letters.
-/
import Derived.Test.YtdbnconphcaclaaDoorReader
namespace Go.Proofs.YtdbnconphcaclaaDoor
open Go.RowKit
set_option linter.unusedVariables false

def hx (d : Nat) : Nat := if d < 10 then 48 + d else 87 + d
/-- What the first k digits say. -/
def hv (f : Nat → Nat) : Nat → Nat
  | 0 => 0
  | k + 1 => hv f k * 16 + f k
theorem hv_lt {f : Nat → Nat} (h : ∀ k, k < 4 → f k < 16) : hv f 0 = 0 ∧ hv f 1 < 16 ∧ hv f 2 < 256 ∧ hv f 3 < 4096 ∧ hv f 4 < 65536 := by
  have h0 := h 0 (by decide)
  have h1 := h 1 (by decide)
  have h2 := h 2 (by decide)
  have h3 := h 3 (by decide)
  have e1 : hv f 1 = hv f 0 * 16 + f 0 := rfl
  have e2 : hv f 2 = hv f 1 * 16 + f 1 := rfl
  have e3 : hv f 3 = hv f 2 * 16 + f 2 := rfl
  have e4 : hv f 4 = hv f 3 * 16 + f 3 := rfl
  have e0 : hv f 0 = 0 := rfl
  omega
theorem or_hex (v x : Nat) (hv : v < 4096) (hx : x < 16) : bits .or .i32 ((v : Int) * 16) (x : Int) = ((v * 16 + x : Nat) : Int) := by
  show IntKind.i32.wrap ((BitVec.ofInt 32 ((v : Int) * 16) ||| BitVec.ofInt 32 (x : Int)).toNat : Int) = _
  have e1 : BitVec.ofInt 32 ((v : Int) * 16) = BitVec.ofNat 32 (v * 16) := by
    rw [show (v : Int) * 16 = ((v * 16 : Nat) : Int) by omega]
    exact BitVec.ofInt_natCast _ _
  have e2 : BitVec.ofInt 32 (x : Int) = BitVec.ofNat 32 x := BitVec.ofInt_natCast _ _
  rw [e1, e2, BitVec.toNat_or, BitVec.toNat_ofNat, BitVec.toNat_ofNat, Nat.mod_eq_of_lt (by omega), Nat.mod_eq_of_lt (by omega)]
  have e3 : v * 16 ||| x = v * 16 + x := by
    have := Nat.shiftLeft_add_eq_or_of_lt (i := 4) (b := x) (by omega) v
    rw [Nat.shiftLeft_eq] at this
    exact this.symm
  rw [e3]
  have e : ((v * 16 + x : Nat) : Int) % 2 ^ 32 = ((v * 16 + x : Nat) : Int) := Int.emod_eq_of_lt (by omega) (by omega)
  simp only [IntKind.wrap, IntKind.bits, IntKind.signed, e]
  rw [if_neg]
  simp
  omega
theorem hv_le {f : Nat → Nat} (h : ∀ k, k < 4 → f k < 16) {k : Nat} (hk : k < 4) : hv f k < 4096 := by
  obtain ⟨h0, h1, h2, h3, h4⟩ := hv_lt h
  have : k = 0 ∨ k = 1 ∨ k = 2 ∨ k = 3 := by omega
  rcases this with rfl | rfl | rfl | rfl <;> omega

theorem JS.next {w : World} {g i d : Nat} {s : ByteArray} (h : JS w g s i d) : JS (w.setCell ⟨g, 1, none⟩ (.int .i64 ((i : Int) + 1))) g s (i + 1) d := h.at_ (i + 1)
theorem grown_g {a b c : World} {row : Option Nat} (h : a.grownBy b row) (k : b.grownBy c row) : a.grownBy c row :=
  ⟨k.os.trans h.os, k.tape.trans h.tape, k.output.trans h.output, Nat.le_trans h.size k.size, fun i hi hr => (k.block i (Nat.lt_of_lt_of_le hi h.size) hr).trans (h.block i hi hr)⟩

set_option maxRecDepth 100000 in
set_option maxHeartbeats 1000000 in
theorem hex_any (f : Nat → Nat) (hf : ∀ k, k < 4 → f k < 16) (g i d : Nat) (s : ByteArray) (w : World) (hs : s.size ≤ 100000) (hj : JS w g s i d) (hi : i + 4 ≤ s.size) (hd : ∀ k (h : k < 4), s[i + k].toNat = hx (f k)) :
    Calls Tryd.prog 88 #[.pointer (some ⟨g, 0, none⟩)] w fun e w' => e = .returned (.tuple #[.int .i32 (hv f 4), .bool true]) ∧ JS w' g s (i + 4) d ∧ w.grownBy w' (some g) := by
  have H0 := Lib.hid (And.intro hf (And.intro hj hd))
  clear hf hj hd
  go_enter Tryd.func88, Tryd.ntmps88
  go_wp2
  go_loopw [4, 6] (fun v n wr => ∃ k : Nat, k ≤ 4 ∧ n = .int .i64 k ∧ v = .int .i32 (hv f k) ∧ JS wr g s (i + k) d ∧ w.grownBy wr (some g)) (fun _ n _ => 4 - (intOf n).toNat)
  case atStart => exact ⟨0, by omega, rfl, rfl, H0.out.2.1, only_of_below (Below.refl _ _) _⟩
  case round =>
    obtain ⟨k, hk, rfl, rfl, hj, hgr⟩ := hrel
    by_cases hlt : k < 4
    · have hfk := H0.out.1 k hlt
      have hvk := hv_le H0.out.1 hlt
      have hdk := H0.out.2.2 k hlt
      have hnx : hv f (k + 1) = hv f k * 16 + f k := rfl
      obtain ⟨a, ha⟩ : ∃ a, a = i + k := ⟨_, rfl⟩
      have hlta : a < s.size := by omega
      have hda : s[a].toNat = hx (f k) := by subst ha; exact hdk
      rw [← ha] at hj
      generalize hv f k = v at *
      generalize f k = x at *
      have h0 := hj.c0
      have h1 := hj.c1
      have f1 := hj.f 1
      have b1 : decide ((s.size : Int) ≤ a) = false := by simp; omega
      have HN := Lib.hid (And.intro hdk (And.intro hnx (And.intro ha (And.intro hda hgr))))
      clear hdk hnx ha hda hgr
      by_cases hx10 : x < 10
      · have c1 : (48 : Int) ≤ (s[a].toNat : Int) := by rw [HN.out.2.2.2.1]; unfold hx; rw [if_pos hx10]; omega
        have c2 : (s[a].toNat : Int) ≤ 57 := by rw [HN.out.2.2.2.1]; unfold hx; rw [if_pos hx10]; omega
        go_wp2
        go_quiet (fail)
        go_wp2
        go_quiet (fail)
        go_wp2
        go_roundw
        case rel =>
          refine ⟨k + 1, by omega, by go_num, ?_, ?_, ?_⟩
          · rw [HN.out.2.1, show (s[a].toNat : Int) - 48 = (x : Int) by rw [HN.out.2.2.2.1]; unfold hx; rw [if_pos hx10]; omega, or_hex v x hvk hfk]
          · rw [show i + (k + 1) = a + 1 by have := HN.out.2.2.1; omega]
            exact (hj.drewN _).at_ (a + 1)
          · exact only_setCell (only_drewN HN.out.2.2.2.2 _) (.inl rfl) _
        case measure => simp [intOf]; omega
      · have c1 : (97 : Int) ≤ (s[a].toNat : Int) := by rw [HN.out.2.2.2.1]; unfold hx; rw [if_neg hx10]; omega
        have c2 : (s[a].toNat : Int) ≤ 102 := by rw [HN.out.2.2.2.1]; unfold hx; rw [if_neg hx10]; omega
        go_wp2
        go_quiet (fail)
        go_wp2
        go_quiet (fail)
        go_wp2
        go_roundw
        case rel =>
          refine ⟨k + 1, by omega, by go_num, ?_, ?_, ?_⟩
          · rw [HN.out.2.1, show (s[a].toNat : Int) - 97 + 10 = (x : Int) by rw [HN.out.2.2.2.1]; unfold hx; rw [if_neg hx10]; omega, or_hex v x hvk hfk]
          · rw [show i + (k + 1) = a + 1 by have := HN.out.2.2.1; omega]
            exact (hj.drewN _).at_ (a + 1)
          · exact only_setCell (only_drewN HN.out.2.2.2.2 _) (.inl rfl) _
        case measure => simp [intOf]; omega
    · have hk4 : k = 4 := by omega
      subst hk4
      go_wp2
      go_ret2
      exact ⟨rfl, hj, hgr⟩

/-- What stands behind a backslash, where it is one letter. -/
def escOne (b : Nat) : Option Nat := if b = 34 then some 34 else if b = 92 then some 92 else if b = 98 then some 8 else if b = 102 then some 12 else if b = 110 then some 10 else if b = 114 then some 13 else if b = 116 then some 9 else none

set_option maxRecDepth 100000 in
set_option maxHeartbeats 1000000 in
theorem unesc_one (g i d : Nat) (s : ByteArray) (w : World) (hs : s.size ≤ 100000) (hj : JS w g s i d) (hi : i < s.size) (b r : Nat) (hb : s[i].toNat = b) (hr : escOne b = some r) :
    Calls Tryd.prog 74 #[.pointer (some ⟨g, 0, none⟩)] w fun e w' => e = .returned (.tuple #[.int .i32 r, .bool true]) ∧ JS w' g s (i + 1) d ∧ w.grownBy w' (some g) := by
  have h0 := hj.c0
  have h1 := hj.c1
  have f1 := hj.f 1
  have b1 : decide ((s.size : Int) ≤ i) = false := by simp; omega
  have hcase : (b = 34 ∧ r = 34) ∨ (b = 92 ∧ r = 92) ∨ (b = 98 ∧ r = 8) ∨ (b = 102 ∧ r = 12) ∨ (b = 110 ∧ r = 10) ∨ (b = 114 ∧ r = 13) ∨ (b = 116 ∧ r = 9) := by
    unfold escOne at hr
    repeat' split at hr
    all_goals first | (cases hr; done) | (have := Option.some.inj hr; omega)
  clear hr
  rcases hcase with ⟨rfl, rfl⟩ | ⟨rfl, rfl⟩ | ⟨rfl, rfl⟩ | ⟨rfl, rfl⟩ | ⟨rfl, rfl⟩ | ⟨rfl, rfl⟩ | ⟨rfl, rfl⟩
  all_goals
    go_enter Tryd.func74, Tryd.ntmps74
    go_wp2
    go_quiet (fail)
    go_wp2
    go_quiet (fail)
    go_wp2
    go_ret2
    exact ⟨rfl, (hj.drewN _).at_ (i + 1), only_setCell (only_of_below (below_drewN (Below.refl _ _) _) _) (.inl rfl) _⟩

set_option maxRecDepth 100000 in
set_option maxHeartbeats 1000000 in
theorem unesc_hex (f : Nat → Nat) (hf : ∀ k, k < 4 → f k < 16) (g i d : Nat) (s : ByteArray) (w : World) (hs : s.size ≤ 100000) (hj : JS w g s i d) (hi1 : i < s.size) (hb : s[i].toNat = 117) (hi : i + 5 ≤ s.size) (hd : ∀ k (h : k < 4), s[i + 1 + k].toNat = hx (f k)) (v : Nat) (hv' : v = hv f 4) (hr : v < 55296 ∨ 57343 < v) :
    Calls Tryd.prog 74 #[.pointer (some ⟨g, 0, none⟩)] w fun e w' => e = .returned (.tuple #[.int .i32 v, .bool true]) ∧ JS w' g s (i + 5) d ∧ w.grownBy w' (some g) := by
  have h0 := hj.c0
  have h1 := hj.c1
  have f1 := hj.f 1
  have b1 : decide ((s.size : Int) ≤ i) = false := by simp; omega
  have HD := Lib.hid (And.intro hf (And.intro hd (And.intro hv' (And.intro hi hr))))
  have hv5 : v < 65536 := by rw [hv']; exact (hv_lt hf).2.2.2.2
  clear hf hd hv'
  rcases hr with hr | hr
  · have B2 := Lib.hid (show v ≤ 55295 by omega)
    clear hr hv5
    go_enter Tryd.func74, Tryd.ntmps74
    go_wp2
    go_quiet (fail)
    go_wp2
    go_quiet (fail)
    go_wp2_with (go_at_call 88; refine (hex_any f HD.out.1 g (i + 1) d s _ hs (hj.drewN _).next (by have := HD.out.2.2.2.1; omega) HD.out.2.1).mono ?_; rintro e w1 ⟨rfl, hj1, hg1⟩; rw [← HD.out.2.2.1]; have b2 := B2.out)
    go_ret2
    exact ⟨rfl, hj1, grown_g (only_setCell (only_of_below (below_drewN (Below.refl _ _) _) _) (.inl rfl) _) hg1⟩
  · have B2 := Lib.hid (And.intro (show decide ((v : Int) < 55296) = false by simp; omega) (show decide ((57343 : Int) < v) = true by simp; omega))
    clear hr hv5
    go_enter Tryd.func74, Tryd.ntmps74
    go_wp2
    go_quiet (fail)
    go_wp2
    go_quiet (fail)
    go_wp2_with (go_at_call 88; refine (hex_any f HD.out.1 g (i + 1) d s _ hs (hj.drewN _).next (by have := HD.out.2.2.2.1; omega) HD.out.2.1).mono ?_; rintro e w1 ⟨rfl, hj1, hg1⟩; rw [← HD.out.2.2.1]; have b2 := B2.out.1; have b3 := B2.out.2)
    go_ret2
    exact ⟨rfl, hj1, grown_g (only_setCell (only_of_below (below_drewN (Below.refl _ _) _) _) (.inl rfl) _) hg1⟩
end Go.Proofs.YtdbnconphcaclaaDoor
