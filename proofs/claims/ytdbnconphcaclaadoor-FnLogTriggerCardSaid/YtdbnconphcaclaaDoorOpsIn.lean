/-
  A slice of impl.LOp that came in reads as a list. Conditions: as the theorem says.
-/
import Derived.Test.YtdbnconphcaclaaDoorOps
import Derived.Deep.Slices
import Derived.Lib.SmallJoins
import Derived.ChangeArms
namespace Go.Proofs.YtdbnconphcaclaaDoor
open Go.RowKit Go.Deep Go.WideShapes
set_option linter.unusedVariables false

/-- WHAT THE WALK IS TOLD OF A SLICE OF LOp THAT CAME IN. -/
def IsOps (W : World) (a : Option Addr) (len : Nat) (L : List OpR) : Prop := L.length = len ∧ len ≤ 9223372036854775807 ∧ OpsAt W W.heap.size a L ∧ OpsOk L

instance : Inhabited OpR := ⟨⟨0, ⟨#[]⟩, false, false⟩⟩
theorem list4 {α : Type} (l : List α) (h : l.length = 4) : ∃ a b c d, l = [a, b, c, d] := by
  match l, h with
  | [a, b, c, d], _ => exact ⟨a, b, c, d, rfl⟩
theorem lop_fields : ∃ f0 f1 f2 f3 : Field, Tryd.prog.underlying 45 = some (.struct #[f0, f1, f2, f3]) ∧ f0.offset = 0 ∧ f1.offset = 1 ∧ f2.offset = 2 ∧ f3.offset = 3 ∧ f0.type = 3 ∧ f1.type = 9 ∧ f2.type = 4 ∧ f3.type = 4 :=
  ⟨_, _, _, _, Tryd.underlying45, rfl, rfl, rfl, rfl, rfl, rfl, rfl, rfl⟩
theorem open_ops {H : Type} {enc : TypeId × Value → H} {W : World} {base : Nat} {sp : Nat → Bool} {held : Bool} {fuel len cap : Nat} {a : Option Addr} {x : DataW H × List MemPlace} (h : DataW.trod enc Tryd.prog W base sp held fuel 42 [.slice a len cap] = some x) : ∃ L, IsOps W a len L := by
  rcases open_slice Tryd.underlying42 h with ⟨h0, _⟩ | ⟨ad, l, c, m, n, D, Pl, h0, hb, hl, hm, hmm, _, hx⟩
  · simp at h0
    obtain ⟨rfl, rfl, rfl⟩ := h0
    exact ⟨[], rfl, by omega, fun h => by simp at h, fun x hx => by simp at hx⟩
  · simp at h0
    obtain ⟨rfl, rfl, rfl⟩ := h0
    have hlm : len ≤ m := by rw [hmm]; split <;> omega
    have ce : Tryd.prog.cellsOf 45 = 4 := by kernel_rfl
    have c1 : Tryd.prog.cellsOf 3 = 1 := by kernel_rfl
    have c2 : Tryd.prog.cellsOf 9 = 1 := by kernel_rfl
    have c3 : Tryd.prog.cellsOf 4 = 1 := by kernel_rfl
    obtain ⟨f0, f1, f2, f3, hs, o0, o1, o2, o3, t0, t1, t2, t3⟩ := lop_fields
    have each : ∀ i, i < len → ∃ q : OpR, (-9223372036854775808 ≤ q.lv ∧ q.lv ≤ 9223372036854775807 ∧ q.tx.size ≤ 9223372036854775807) ∧ W.cell? (ad.add (i * 4)) = some (.int .i64 q.lv) ∧ W.cell? (ad.add (i * 4 + 1)) = some (.string q.tx) ∧ W.cell? (ad.add (i * 4 + 2)) = some (.bool q.tg) ∧ W.cell? (ad.add (i * 4 + 3)) = some (.bool q.cl) := by
      intro i hi
      obtain ⟨cs', h1, h2⟩ := hx i (by omega)
      rw [ce] at h1
      obtain ⟨_, hlen, hcell⟩ := World.cells?_some h1
      obtain ⟨v0, v1, v2, v3, rfl⟩ := list4 cs' hlen
      obtain ⟨y0, y1, y2, y3, k, -, -, g0, g1, g2, g3⟩ := Joins.trod_struct4 hs h2
      rw [t0, o0, c1] at g0
      rw [t1, o1, c2] at g1
      rw [t2, o2, c3] at g2
      rw [t3, o3, c3] at g3
      obtain ⟨z, e0, _, hz⟩ := DataW.trod_int Tryd.underlying3 g0
      obtain ⟨s, e1, _, hz1⟩ := DataW.trod_string Tryd.underlying9 g1
      obtain ⟨b2, e2, _⟩ := DataW.trod_bool Tryd.underlying4 g2
      obtain ⟨b3, e3, _⟩ := DataW.trod_bool Tryd.underlying4 g3
      simp at e0 e1 e2 e3
      subst e0 e1 e2 e3
      have q0 := hcell 0 (by omega)
      have q1 := hcell 1 (by omega)
      have q2 := hcell 2 (by omega)
      have q3 := hcell 3 (by omega)
      rw [add_of_add] at q0 q1 q2 q3
      exact ⟨⟨z, s, b2, b3⟩, ⟨(bounds_i64 hz).1, (bounds_i64 hz).2, by unfold maxLen at hz1; exact hz1⟩, by simpa using q0, by simpa using q1, by simpa using q2, by simpa using q3⟩
    obtain ⟨q, hq⟩ := choose_lt each
    refine ⟨(List.range len).map q, by simp, by unfold maxLen at hm; omega, fun hp => ?_, fun x hx => ?_⟩
    · simp at hp
      obtain ⟨b, o, sp'⟩ := ad
      have hq0 := (hq 0 hp).2.1
      obtain rfl : sp' = none := by simpa [Addr.add] using World.cell?_spot hq0
      refine ⟨b, o, rfl, ?_, fun i hi => ?_⟩
      · have := World.block_lt_of_cell? W _ hq0
        rwa [block_of_add] at this
      · simp at hi
        obtain ⟨-, q0, q1, q2, q3⟩ := hq i hi
        rw [add_plain] at q0 q1 q2 q3
        simp only [List.getElem_map, List.getElem_range]
        exact ⟨q0, q1, q2, q3⟩
    · obtain ⟨i, hi, rfl⟩ := List.mem_map.1 hx
      exact (hq i (by simpa using hi)).1
end Go.Proofs.YtdbnconphcaclaaDoor
