/-
  spec's reader of JSON: blanks, has. Conditions: as each theorem says.
-/
import Derived.Test.YtdbnconphcaclaaDoorLText
import Derived.Deep.QuietTactic
import Derived.BigQuiet
namespace Go.Proofs.YtdbnconphcaclaaDoor
open Go.RowKit
set_option linter.unusedVariables false

theorem results_none {fn : Func} (h : fn.results = #[]) (tmps : Array Value) (P : Program) (w : World) : (results fn tmps).run P w = .ok (.tuple #[]) w := by simp [results, h]
/-- The reader lies in block g: it reads s, stands at i, d deep. -/
def JS (w : World) (g : Nat) (s : ByteArray) (i d : Nat) : Prop := Blk w g 70 #[.string s, .int .i64 i, .int .i64 d]
section
variable {w w' : World} {g i d : Nat} {s : ByteArray}
theorem JS.c0 (h : JS w g s i d) : w.cell? ⟨g, 0, none⟩ = some (.string s) := Blk.cell h 0
theorem JS.c1 (h : JS w g s i d) : w.cell? ⟨g, 1, none⟩ = some (.int .i64 i) := Blk.cell h 1
theorem JS.c2 (h : JS w g s i d) : w.cell? ⟨g, 2, none⟩ = some (.int .i64 d) := Blk.cell h 2
theorem JS.f (h : JS w g s i d) (k : Nat) : w.frozen? ⟨g, k, none⟩ = false := Blk.frozen h k
theorem JS.drewN (h : JS w g s i d) (n : Nat) : JS (w.drewN n) g s i d := h
theorem JS.at_ (h : JS w g s i d) (k : Nat) : JS (w.setCell ⟨g, 1, none⟩ (.int .i64 k)) g s k d := Blk.set_ h 1 _
theorem JS.deep (h : JS w g s i d) (k : Nat) : JS (w.setCell ⟨g, 2, none⟩ (.int .i64 k)) g s i k := Blk.set_ h 2 _
end

theorem World.grownBy.drewN' (w : World) (n : Nat) (row : Option Nat) : w.grownBy (w.drewN n) row := only_of_below (below_drewN (Below.refl _ _) n) row

set_option maxRecDepth 100000 in
/-- No blank stands there. -/
theorem blanks_none (g i d : Nat) (s : ByteArray) (w : World) (hs : s.size ≤ 100000) (hj : JS w g s i d) (hi : i < s.size) (hb : s[i].toNat ≠ 32 ∧ s[i].toNat ≠ 9 ∧ s[i].toNat ≠ 10 ∧ s[i].toNat ≠ 13) :
    Calls Tryd.prog 37 #[.pointer (some ⟨g, 0, none⟩)] w fun e w' => e = .returned (.tuple #[]) ∧ ∃ n, w' = w.drewN n := by
  have h0 := hj.c0
  have h1 := hj.c1
  have b1 : ((s[i].toNat : Int) == 32) = false := by simp; omega
  have b2 : ((s[i].toNat : Int) == 9) = false := by simp; omega
  have b3 : ((s[i].toNat : Int) == 10) = false := by simp; omega
  have b4 : ((s[i].toNat : Int) == 13) = false := by simp; omega
  have b5 : decide ((i : Int) < s.size) = true := by simp; omega
  clear hb
  go_enter Tryd.func37, Tryd.ntmps37
  go_wp2
  go_loop [] (True) (0)
  case atStart => trivial
  case round =>
    go_wp2
    go_quiet (fail)
    go_wp2
    exact bodyPost_end (results_none rfl _ _ _) rfl ⟨rfl, _, rfl⟩

set_option maxRecDepth 100000 in
/-- Behind the end there is no blank. -/
theorem blanks_end (g d : Nat) (s : ByteArray) (w : World) (hs : s.size ≤ 100000) (hj : JS w g s s.size d) :
    Calls Tryd.prog 37 #[.pointer (some ⟨g, 0, none⟩)] w fun e w' => e = .returned (.tuple #[]) ∧ ∃ n, w' = w.drewN n := by
  have h0 := hj.c0
  have h1 := hj.c1
  have b5 : decide ((s.size : Int) < s.size) = false := by simp
  go_enter Tryd.func37, Tryd.ntmps37
  go_wp2
  go_loop [] (True) (0)
  case atStart => trivial
  case round =>
    go_wp2
    go_quiet (fail)
    go_wp2
    exact bodyPost_end (results_none rfl _ _ _) rfl ⟨rfl, _, rfl⟩

/-- has(t) says no. -/
theorem has_no (g i d : Nat) (s t : ByteArray) (w : World) (hs : s.size ≤ 100000) (ht : t.size ≤ 100000) (hj : JS w g s i d) (hi : i + t.size ≤ s.size) (hne : ((s.extract i (i + t.size)).toList == t.toList) = false) :
    Calls Tryd.prog 55 #[.pointer (some ⟨g, 0, none⟩), .string t] w fun e w' => e = .returned (.bool false) ∧ ∃ n, w' = w.drewN n := by
  have h0 := hj.c0
  have h1 := hj.c1
  have b1 : decide ((s.size : Int) - i < t.size) = false := by simp; omega
  go_enter Tryd.func55, Tryd.ntmps55
  go_wp2
  go_quiet (fail)
  go_wp2
  go_ret
  exact ⟨rfl, _, rfl⟩
/-- has(t) says yes. -/
theorem has_yes (g i d : Nat) (s t : ByteArray) (w : World) (hs : s.size ≤ 100000) (ht : t.size ≤ 100000) (hj : JS w g s i d) (hi : i + t.size ≤ s.size) (he : ((s.extract i (i + t.size)).toList == t.toList) = true) :
    Calls Tryd.prog 55 #[.pointer (some ⟨g, 0, none⟩), .string t] w fun e w' => e = .returned (.bool true) ∧ JS w' g s (i + t.size) d ∧ w.grownBy w' (some g) := by
  have h0 := hj.c0
  have h1 := hj.c1
  have f1 := hj.f 1
  have b1 : decide ((s.size : Int) - i < t.size) = false := by simp; omega
  go_enter Tryd.func55, Tryd.ntmps55
  go_wp2
  go_quiet (fail)
  go_wp2
  go_ret
  exact ⟨rfl, (hj.drewN _).at_ (i + t.size), only_setCell (World.grownBy.drewN' w _ _) (.inl rfl) _⟩
end Go.Proofs.YtdbnconphcaclaaDoor
