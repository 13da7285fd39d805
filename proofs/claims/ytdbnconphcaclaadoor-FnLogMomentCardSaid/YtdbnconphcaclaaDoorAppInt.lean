/-
  package time's appendInt: digits behind a buffer of 64 bytes. Conditions: as each theorem says.
-/
import Derived.Test.YtdbnconphcaclaaDoorCivil
namespace Go.Proofs.YtdbnconphcaclaaDoor
open Go.RowKit
set_option linter.unusedVariables false

theorem only_at {a w : World} {g : Nat} (h : a.grownBy w (some g)) (j : Nat) (v : Value) : a.grownBy (w.setCell ⟨g, j, none⟩ v) (some g) := only_setCell h (.inl rfl) v
/-- A buffer of 64 bytes whose first n bytes are l. -/
def BH (w : World) (g n : Nat) (l : List UInt8) : Prop := l.length = n ∧ ∃ (T : TypeId) (cs : Array Value), Blk w g T cs ∧ cs.size = 64 ∧ cs.toList.take n = bytesV l
section
variable {w : World} {g n : Nat} {l : List UInt8}
theorem BH.lt (h : BH w g n l) : g < w.heap.size := by
  obtain ⟨_, T, cs, hb, _⟩ := h
  exact hb.lt
theorem BH.alloc (h : BH w g n l) (o : Obj) : BH (w.alloc o) g n l := by
  obtain ⟨h1, T, cs, hb, hs, ht⟩ := h
  exact ⟨h1, T, cs, hb.alloc o, hs, ht⟩
theorem BH.cell (h : BH w g n l) (j : Nat) (hj : j < 64) : ∃ u, w.cell? ⟨g, j, none⟩ = some u := by
  obtain ⟨h1, T, cs, hb, hs, _⟩ := h
  rw [hb.cell]
  exact ⟨_, Array.getElem?_eq_getElem (by omega)⟩
theorem BH.frozen (h : BH w g n l) (j : Nat) : w.frozen? ⟨g, j, none⟩ = false := by
  obtain ⟨h1, T, cs, hb, _⟩ := h
  exact hb.frozen j
theorem BH.cellA (h : BH w g n l) (j : Nat) (hj : j < 64) : ∃ u, ∀ o, (w.alloc o).cell? ⟨g, j, none⟩ = some u := by
  obtain ⟨u, hu⟩ := h.cell j hj
  exact ⟨u, fun o => by rw [World.cell?_alloc_lt w o ⟨g, j, none⟩ h.lt]; exact hu⟩
theorem BH.frozenA (h : BH w g n l) (j : Nat) : ∀ o, (w.alloc o).frozen? ⟨g, j, none⟩ = false := fun o => (h.alloc o).frozen j
theorem BH.put (h : BH w g n l) (x : UInt8) (v : Int) (hv : v = x.toNat) (hn : n < 64) (j m : Nat) (hj : j = n) (hm : m = n + 1) : BH (w.setCell ⟨g, j, none⟩ (.int .u8 v)) g m (l ++ [x]) := by
  subst hj hm hv
  obtain ⟨h1, T, cs, hb, hs, ht⟩ := h
  refine ⟨by simp [h1], T, _, hb.set_ j _, by simp [hs], ?_⟩
  rw [List.take_succ_eq_append_getElem (by simp [hs]; omega)]
  have e1 : (cs.setIfInBounds j (Value.int .u8 x.toNat)).toList.take j = cs.toList.take j := by
    rw [Array.toList_setIfInBounds, List.take_set_of_le (Nat.le_refl _)]
  rw [e1, ht]
  simp [bytesV]
end
theorem padT_two {v : Nat} (h : v ≤ 99) : padT v 2 = [dig (v / 10), dig v] := by
  rw [padT_eq 1 v (by omega)]
  simp [padz]
theorem padT_four {v : Nat} (h : v ≤ 9999) : padT v 4 = [dig (v / 1000), dig (v / 100), dig (v / 10), dig v] := by
  rw [padT_eq 3 v (by omega)]
  simp [padz]

set_option maxRecDepth 100000 in
theorem appint2 (g n v : Nat) (l : List UInt8) (x : Int) (hx : x = v) (hv : v ≤ 99) (w : World) (hb : BH w g n l) (hn : n + 2 ≤ 64) :
    Calls Tryd.prog 93 #[.slice (some ⟨g, 0, none⟩) n 64, .int .i64 x, .int .i64 2] w fun e w' => e = .returned (.slice (some ⟨g, 0, none⟩) (n + 2) 64) ∧ BH w' g (n + 2) (l ++ padT v 2) ∧ w.grownBy w' (some g) := by
  have x0 : 0 ≤ x := by omega
  have x1 : x ≤ 99 := by omega
  obtain ⟨u0, y0⟩ := hb.cellA n (by omega)
  have z0 := hb.frozenA n
  obtain ⟨u1, y1⟩ := hb.cellA (n + 1) (by omega)
  have z1 := hb.frozenA (n + 1)
  have H := Lib.hid (And.intro hx (And.intro hb hv))
  clear hx hb hv
  go_enter Tryd.func93, Tryd.ntmps93
  go_wp2
  go_ret
  obtain ⟨hx, hb, hv⟩ := H.out
  refine ⟨rfl, ?_, only_at (only_at (only_alloc (World.grownBy.refl _ _) _) _ _) _ _⟩
  rw [padT_two hv, show l ++ [dig (v / 10), dig v] = l ++ [dig (v / 10)] ++ [dig v] by simp]
  exact ((hb.alloc _).put (dig (v / 10)) _ (by rw [dig_toNat]; omega) (by omega) n _ rfl rfl).put (dig v) _ (by rw [dig_toNat]; omega) (by omega) (n + 1) _ rfl rfl

set_option maxRecDepth 100000 in
theorem appint4 (g n v : Nat) (l : List UInt8) (x : Int) (hx : x = v) (hv : v ≤ 9999) (w : World) (hb : BH w g n l) (hn : n + 4 ≤ 64) :
    Calls Tryd.prog 93 #[.slice (some ⟨g, 0, none⟩) n 64, .int .i64 x, .int .i64 4] w fun e w' => e = .returned (.slice (some ⟨g, 0, none⟩) (n + 4) 64) ∧ BH w' g (n + 4) (l ++ padT v 4) ∧ w.grownBy w' (some g) := by
  have x0 : 0 ≤ x := by omega
  have x1 : x ≤ 9999 := by omega
  obtain ⟨u0, y0⟩ := hb.cellA n (by omega)
  have z0 := hb.frozenA n
  obtain ⟨u1, y1⟩ := hb.cellA (n + 1) (by omega)
  have z1 := hb.frozenA (n + 1)
  obtain ⟨u2, y2⟩ := hb.cellA (n + 2) (by omega)
  have z2 := hb.frozenA (n + 2)
  obtain ⟨u3, y3⟩ := hb.cellA (n + 3) (by omega)
  have z3 := hb.frozenA (n + 3)
  have H := Lib.hid (And.intro hx (And.intro hb hv))
  clear hx hb hv
  go_enter Tryd.func93, Tryd.ntmps93
  go_wp2
  go_ret
  obtain ⟨hx, hb, hv⟩ := H.out
  refine ⟨rfl, ?_, only_at (only_at (only_at (only_at (only_alloc (World.grownBy.refl _ _) _) _ _) _ _) _ _) _ _⟩
  rw [padT_four hv, show l ++ [dig (v / 1000), dig (v / 100), dig (v / 10), dig v] = l ++ [dig (v / 1000)] ++ [dig (v / 100)] ++ [dig (v / 10)] ++ [dig v] by simp]
  exact ((((hb.alloc _).put (dig (v / 1000)) _ (by rw [dig_toNat]; omega) (by omega) n _ rfl rfl).put (dig (v / 100)) _ (by rw [dig_toNat]; omega) (by omega) (n + 1) _ rfl rfl).put (dig (v / 10)) _ (by rw [dig_toNat]; omega) (by omega) (n + 2) _ rfl rfl).put (dig v) _ (by rw [dig_toNat]; omega) (by omega) (n + 3) _ rfl rfl
end Go.Proofs.YtdbnconphcaclaaDoor
