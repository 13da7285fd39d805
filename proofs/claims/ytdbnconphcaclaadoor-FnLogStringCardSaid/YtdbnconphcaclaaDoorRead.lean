/-
  spec.JRead at a text between quotation marks. Conditions: as the theorem says.
-/
import Derived.Test.YtdbnconphcaclaaDoorRText
namespace Go.Proofs.YtdbnconphcaclaaDoor
open Go.RowKit
set_option linter.unusedVariables false

/-- What the deferred closure does: one up. -/
theorem value_up (g a i d : Nat) (s : ByteArray) (w : World) (hd : d ≤ 100000) (hj : JS w g s i (d + 1)) (ha : w.cell? ⟨a, 0, none⟩ = some (.pointer (some ⟨g, 0, none⟩))) :
    CallsD Tryd.prog 54 #[.pointer (some ⟨a, 0, none⟩)] .returning w fun e u' w' => u' = .returning ∧ e = .returned (.tuple #[]) ∧ JS w' g s i d ∧ w.grownBy w' (some g) := by
  have c2 := hj.c2
  have f2 := hj.f 2
  go_enter_d Tryd.func54, Tryd.ntmps54
  go_wp2
  exact bodyPost_end (results_none rfl _ _ _) rfl ⟨rfl, hj.deep d, only_setCell (only_of_below (Below.refl _ _) _) (.inl rfl) _⟩

/-- Where value's own variables lie. -/
theorem value_start {w w1 : World} {g n : Nat} {s : ByteArray} {cs : Array Value} {t t' : TypeId} {cs' : Array Value} (hj : JS w g s 0 0) (hw : w1 = ((w.alloc (.cells cs t)).alloc (.cells cs' t')).drewN n) :
    JS w1 g s 0 0 ∧ Blk w1 w.heap.size t cs ∧ Blk w1 (w.heap.size + 1) t' cs' ∧ w.grownBy w1 (some g) := by
  subst hw
  refine ⟨((show Blk w g _ _ from hj).alloc _).alloc _, (Blk.new w t cs).alloc _, ?_, only_drewN (only_alloc (only_alloc (only_of_below (Below.refl _ _) _) _) _) _⟩
  have := Blk.new (w.alloc (.cells cs t)) t' cs'
  rwa [show (w.alloc (.cells cs t)).heap.size = w.heap.size + 1 by simp] at this

theorem JS.deep1 {w : World} {g i d : Nat} {s : ByteArray} (h : JS w g s i d) : JS (w.setCell ⟨g, 2, none⟩ (.int .i64 1)) g s i 1 := h.deep 1
inductive Mark (n : Nat) : Prop | intro
/-- A contract that is meant only behind a mark. -/
theorem marked {n : Nat} {p : Prop} (_ : Mark n) (h : p) : p := h

theorem byte_eq {s : ByteArray} {i : Nat} (hi : i < s.size) (b : UInt8) : ((s.extract i (i + (ByteArray.mk #[b]).size)).toList == (ByteArray.mk #[b]).toList) = (s[i] == b) := by
  have hz : (ByteArray.mk #[b]).size = 1 := rfl
  rw [ByteArray.toList_eq, ByteArray.toList_eq, hz, extract_list]
  have : (s.data.toList.take (i + 1)).drop i = [s[i]] := by
    rw [take_snoc s i hi, List.drop_append_of_le_length (by rw [List.length_take, ← size_list]; omega), List.drop_eq_nil_of_le (by rw [List.length_take, ← size_list]; omega)]
    rfl
  rw [this]
  simp

set_option maxRecDepth 100000 in
set_option maxHeartbeats 400000 in
theorem value_text (R : List UInt8) (hR : R.length ≤ 100000) (g : Nat) (s : ByteArray) (w : World) (hs : s.size ≤ 100000) (hj : JS w g s 0 0) (h2 : 2 ≤ g) (hi : 0 < s.size) (hq : s[0].toNat = 34) (hT : Lib.Utf8Tabs 0 1 w) (ht : TX s R [] 1) :
    Calls Tryd.prog 36 #[.pointer (some ⟨g, 0, none⟩)] w fun e w' => e = .returned (.tuple #[.agg #[.int .i64 4, .string ⟨R.toArray⟩, .slice none 0 0, .slice none 0 0], .bool true]) ∧ JS w' g s s.size 0 ∧ w.grownBy w' (some g) := by
  have hgw : g < w.heap.size := hj.lt
  have HT := Lib.hid (And.intro hT (And.intro ht hj))
  have q34 : s[0] = 34 := UInt8.toNat_inj.1 hq
  have n1 : ((s.extract 0 (0 + (ByteArray.mk #[123]).size)).toList == (ByteArray.mk #[123]).toList) = false := by rw [byte_eq hi, q34]; decide
  have n2 : ((s.extract 0 (0 + (ByteArray.mk #[91]).size)).toList == (ByteArray.mk #[91]).toList) = false := by rw [byte_eq hi, q34]; decide
  have n3 : ((s.extract 0 (0 + (ByteArray.mk #[34]).size)).toList == (ByteArray.mk #[34]).toList) = true := by rw [byte_eq hi, q34]; decide
  have HN := Lib.hid (And.intro n1 (And.intro n2 n3))
  clear hT ht n1 n2 n3 q34 hj
  have hmf : ∀ (fn : Fn) (first cap : Array Value) (w : World), (Instr.makeFunc fn first cap).run Tryd.prog w = .ok (.func fn first cap) w := fun _ _ _ _ => rfl
  go_enter_defers Tryd.func36, Tryd.ntmps36
  go_wp2_with (first
    | (go_at_call 57; refine (text_any R hR g 1 1 s _ hs hj4 h2 (by exact tabs_keep HT.out.1 (below_g hg4 (by omega)) h2) HT.out.2.1).mono ?_; rintro e w5 ⟨rfl, hj5, hg5⟩; have HG := Lib.hid (And.intro hj5 (And.intro hg4 hg5)); have b05 := (b0.grown hgr4 (by simp; omega)).grown hg5 (by simp; omega); have b15 := (b1.grown hgr4 (by simp; omega)).grown hg5 (by simp; omega); clear p04; have p05 := b05.cell 0; have d0 := b15.cell 0; have d1 := b15.cell 1; have d2 := b15.cell 2; have d3 := b15.cell 3; have z0 := b15.frozen 0; have z1 := b15.frozen 1; have z2 := b15.frozen 2; have z3 := b15.frozen 3)
    | (go_at_call 55; refine (marked (show Mark 2 from mk2) (has_yes g 0 1 s ⟨#[34]⟩ _ hs (by decide) (hj1.deep1.drewN _) (by show 0 + 1 ≤ _; omega) HN.out.2.2)).mono ?_; rintro e w4 ⟨rfl, hj4, hg4'⟩; have hgr4 : w1.grownBy w4 (some g) := grown_g (only_drewN (only_setCell (only_of_below (Below.refl _ _) _) (.inl rfl) _) _) hg4'; have hg4 := grown_g g1 hgr4; clear c2 f2 p0; have p04 := (b0.grown hgr4 (by simp; omega)).cell 0)
    | (go_at_call 55; refine (marked (show Mark 1 from mk1) (has_no g 0 1 s ⟨#[91]⟩ _ hs (by decide) (hj1.deep1.drewN _) (by show 0 + 1 ≤ _; omega) HN.out.2.1)).mono ?_; rintro e w3 ⟨rfl, n3, hw3⟩; subst hw3; have mk2 : Mark 2 := .intro)
    | (go_at_call 55; refine (has_no g 0 1 s ⟨#[123]⟩ _ hs (by decide) hj1.deep1 (by show 0 + 1 ≤ _; omega) HN.out.1).mono ?_; rintro e w2 ⟨rfl, n2, hw2⟩; subst hw2; have mk1 : Mark 1 := .intro)
    | (go_at_call 37; refine (blanks_none g 0 0 s _ hs (((show Blk w g _ _ from HT.out.2.2).alloc _).alloc _) hi (by omega)).mono ?_; rintro e w1 ⟨rfl, n, hw1⟩; obtain ⟨hj1, b0, b1, g1⟩ := value_start HT.out.2.2 hw1; clear hw1; have c2 := hj1.c2; have f2 := hj1.f 2; have p0 := b0.cell 0))
  have hj6 : JS ((((w5.setCell ⟨w.heap.size + 1, 0, none⟩ (.int .i64 4)).setCell ⟨w.heap.size + 1, 1, none⟩ (.string ⟨R.toArray⟩)).setCell ⟨w.heap.size + 1, 2, none⟩ (.slice none 0 0)).setCell ⟨w.heap.size + 1, 3, none⟩ (.slice none 0 0)) g s s.size 1 :=
    ((((show Blk w5 g _ _ from HG.out.1).far (by simp; omega) _).far (by simp; omega) _).far (by simp; omega) _).far (by simp; omega) _
  have b6 : Blk ((((w5.setCell ⟨w.heap.size + 1, 0, none⟩ (.int .i64 4)).setCell ⟨w.heap.size + 1, 1, none⟩ (.string ⟨R.toArray⟩)).setCell ⟨w.heap.size + 1, 2, none⟩ (.slice none 0 0)).setCell ⟨w.heap.size + 1, 3, none⟩ (.slice none 0 0)) w.heap.size _ _ :=
    (((b05.far (by simp) _).far (by simp) _).far (by simp) _).far (by simp) _
  have b7 := (((b15.set_ 0 (.int .i64 4)).set_ 1 (.string ⟨R.toArray⟩)).set_ 2 (.slice none 0 0)).set_ 3 (.slice none 0 0)
  have g6 := only_setCell (only_setCell (only_setCell (only_setCell (grown_g HG.out.2.1 HG.out.2.2) (p := ⟨w.heap.size + 1, 0, none⟩) (.inr (by simp)) (.int .i64 4)) (p := ⟨w.heap.size + 1, 1, none⟩) (.inr (by simp)) (.string ⟨R.toArray⟩)) (p := ⟨w.heap.size + 1, 2, none⟩) (.inr (by simp)) (.slice none 0 0)) (p := ⟨w.heap.size + 1, 3, none⟩) (.inr (by simp)) (.slice none 0 0)
  refine leaves_cons (f := 54) (args := #[.pointer (some ⟨w.heap.size, 0, none⟩)]) (by simp) (by simp [go_sem]) ?_
  refine (value_up g w.heap.size s.size 0 s _ (by omega) hj6 (b6.cell 0)).mono ?_
  rintro e u' w7 ⟨rfl, rfl, hj7, hg7⟩
  have b8 := b7.grown hg7 (by simp; omega)
  have e0 := b8.cell 0
  have e1 := b8.cell 1
  have e2 := b8.cell 2
  have e3 := b8.cell 3
  simp at e0 e1 e2 e3
  refine ⟨_, ?_, rfl, hj7, grown_g g6 hg7⟩
  simp [results, Tryd.results36, go_sem, e0, e1, e2, e3]
end Go.Proofs.YtdbnconphcaclaaDoor
