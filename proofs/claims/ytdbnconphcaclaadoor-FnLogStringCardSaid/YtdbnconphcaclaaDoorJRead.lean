/-
  spec.JRead at a text between quotation marks. Conditions: as the theorem says.
-/
import Derived.Test.YtdbnconphcaclaaDoorRead
namespace Go.Proofs.YtdbnconphcaclaaDoor
open Go.RowKit
set_option linter.unusedVariables false

theorem quoted_list' (l : List UInt8) : (quoted l).data.toList = [34] ++ esc l ++ [34] := by simp [quoted]
theorem js_new (w : World) (t : TypeId) (cs : Array Value) (s : ByteArray) : JS ((w.alloc (.cells cs t)).alloc (.cells #[.string s, .int .i64 0, .int .i64 0] 70)) (w.heap.size + 1) s 0 0 := by
  have := Blk.new (w.alloc (.cells cs t)) 70 #[.string s, .int .i64 0, .int .i64 0]
  rwa [show (w.alloc (.cells cs t)).heap.size = w.heap.size + 1 by simp] at this
theorem tabs_two {w : World} {o o' : Obj} (h : Lib.Utf8Tabs 0 1 w) (h2 : 2 ≤ w.heap.size) : Lib.Utf8Tabs 0 1 ((w.alloc o).alloc o') :=
  tabs_keep h (((Below.refl w.heap.size w).alloc (Nat.le_refl _) o).alloc (by simp) o') h2
theorem read_two {w w2 : World} {t : TypeId} {cs : Array Value} {o : Obj} (h : ((w.alloc (.cells cs t)).alloc o).grownBy w2 (some (w.heap.size + 1))) : Blk w2 w.heap.size t cs ∧ w.heap.size + 2 ≤ w2.heap.size ∧ Below w.heap.size w w2 := by
  have hs : ((w.alloc (.cells cs t)).alloc o).heap.size = w.heap.size + 2 := by simp
  refine ⟨((Blk.new w t cs).alloc o).grown h (by simp), by rw [← hs]; exact h.size, ?_⟩
  have h1 : Below w.heap.size w ((w.alloc (.cells cs t)).alloc o) := ((Below.refl w.heap.size w).alloc (Nat.le_refl _) _).alloc (by simp) _
  exact h1.trans ⟨h.os, h.tape, h.output, h.size, fun k hk => h.block k (by rw [hs]; omega) (by simp; omega)⟩

theorem read_three {w w2 w3 : World} {t t' : TypeId} {cs cs' : Array Value} {s : ByteArray} {i d n : Nat} (hb : Blk w2 w.heap.size t cs) (hz : w.heap.size + 2 ≤ w2.heap.size) (hB : Below w.heap.size w w2) (hj : JS w2 (w.heap.size + 1) s i d) (hw : w3 = (w2.alloc (.cells cs' t')).drewN n) :
    Blk w3 w.heap.size t cs ∧ Blk w3 w2.heap.size t' cs' ∧ JS w3 (w.heap.size + 1) s i d ∧ Below w.heap.size w w3 := by
  subst hw
  exact ⟨hb.alloc _, Blk.new w2 t' cs', Blk.alloc hj _, below_drewN (hB.alloc (by omega) _) _⟩

set_option maxRecDepth 100000 in
set_option maxHeartbeats 400000 in
theorem jread (L : List UInt8) (hL : L.length ≤ 2000) (w : World) (h2 : 2 ≤ w.heap.size) (hT : Lib.Utf8Tabs 0 1 w) :
    Calls Tryd.prog 16 #[.string (quoted L)] w fun e w' => e = .returned (.tuple #[.agg #[.int .i64 4, .string ⟨(true8 L).toArray⟩, .slice none 0 0, .slice none 0 0], .bool true]) ∧ Below w.heap.size w w' := by
  have hql := quoted_list' L
  obtain ⟨s, hs⟩ : ∃ s, s = quoted L := ⟨_, rfl⟩
  rw [← hs] at hql ⊢
  have hsz : s.size ≤ 100000 := by
    rw [size_list, hql]
    have := esc_length L
    simp only [List.length_append, List.length_cons, List.length_nil]
    omega
  have hi : 0 < s.size := by
    rw [size_list, hql]
    simp only [List.length_append, List.length_cons, List.length_nil]
    omega
  have hq : s[0].toNat = 34 := by
    obtain ⟨_, e0, _⟩ := drop_head (s := s) (i := 0) (x := 34) (t := esc L ++ [34]) (by rw [hql]; simp)
    rw [e0]
    rfl
  have htx : TX s (true8 L) [] 1 := ⟨L, by rw [hql]; simp, rfl⟩
  have hR : (true8 L).length ≤ 100000 := by have := (true8_length _ L (Nat.le_refl _)).2; omega
  have H0 := Lib.hid (And.intro htx (And.intro hT hq))
  clear htx hT hq hs hql
  go_enter Tryd.func16, Tryd.ntmps16
  go_wp2_with (first
    | (go_at_call 36; refine (value_text (true8 L) hR (w.heap.size + 1) s _ hsz (js_new _ _ _ _) (by omega) hi H0.out.2.2 (by exact tabs_two H0.out.2.1 h2) H0.out.1).mono ?_; rintro e w2 ⟨rfl, hj2, hg2⟩; obtain ⟨hb2, hz2, hB2⟩ := read_two hg2)
    | (go_at_call 37; refine (blanks_end (w.heap.size + 1) 0 s _ hsz ((show Blk w2 _ _ _ from hj2).alloc _)).mono ?_; rintro e w3 ⟨rfl, n, hw3⟩; obtain ⟨b3, v3, j3, l3⟩ := read_three hb2 hz2 hB2 hj2 hw3; have hgs : w.heap.size + 2 ≤ w2.heap.size := hz2; clear hw3 hg2 hj2; have c1 := j3.c1; have x0 := b3.cell 0; have x1 := b3.cell 1; have x2 := b3.cell 2; have x3 := b3.cell 3; have z0 := b3.frozen 0; have z1 := b3.frozen 1; have z2 := b3.frozen 2; have z3 := b3.frozen 3; have y0 := v3.cell 0; have y1 := v3.cell 1; have y2 := v3.cell 2; have y3 := v3.cell 3))
  go_region
  all_goals go_wp2
  have b4 := ((((b3.set_ 0 (.int .i64 4)).set_ 1 (.string ⟨(true8 L).toArray⟩)).set_ 2 (.slice none 0 0)).set_ 3 (.slice none 0 0)).drew
  have e0 := b4.cell 0
  have e1 := b4.cell 1
  have e2 := b4.cell 2
  have e3 := b4.cell 3
  simp at e0 e1 e2 e3
  refine bodyPost_ret (v := .tuple #[.agg #[.int .i64 4, .string ⟨(true8 L).toArray⟩, .slice none 0 0, .slice none 0 0], .bool true]) ?_ rfl ⟨rfl, ?_⟩
  · simp [results, Tryd.results16, go_sem, e0, e1, e2, e3]
  · exact below_drewN ((((l3.setCell (p := ⟨w.heap.size, 0, none⟩) (Nat.le_refl _) (.int .i64 4)).setCell (p := ⟨w.heap.size, 1, none⟩) (Nat.le_refl _) (.string ⟨(true8 L).toArray⟩)).setCell (p := ⟨w.heap.size, 2, none⟩) (Nat.le_refl _) (.slice none 0 0)).setCell (p := ⟨w.heap.size, 3, none⟩) (Nat.le_refl _) (.slice none 0 0)) 1
end Go.Proofs.YtdbnconphcaclaaDoor
