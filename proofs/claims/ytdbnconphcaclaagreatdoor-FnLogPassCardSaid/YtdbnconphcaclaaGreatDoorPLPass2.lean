/-
  impl.LPass: a logger of a level writes an event of a level, while there is a global level. Conditions: levels from -1 to 7.
-/
import Derived.Test.YtdbnconphcaclaaGreatDoorPLPass
namespace Go.Proofs.YtdbnconphcaclaaGreatDoor
open Go.RowKit
set_option linter.unusedVariables false

theorem cf_set {w : World} {cf : Nat} (g : Int) (h : Blk w cf 38 cfCells) : Cf (w.setCell ⟨cf, 9, none⟩ (.int .i8 g)) cf g :=
  ⟨_, h.set_ 9 (.int .i8 g), by simp [cfCells], by simp [cfCells], by simp [cfCells], by simp [cfCells], by simp [cfCells]⟩
theorem defaults_at (cf : Nat) (w : World) (h : w.heap.size = cf) : Calls Tryz.prog 6 #[] w fun e w' => e = .returned (.pointer (some ⟨cf, 0, none⟩)) ∧ Blk w' cf 38 cfCells ∧ Below cf w w' := by
  subst h
  exact defaults_any w
theorem lev_x (b cf : Nat) (l0 l : Int) (w : World) : Calls Tryz.prog 8 #[lgV b cf l0, .int .i8 l] w fun e w' => e = .returned (.agg #[.iface 62 (.agg #[.iface 24 (.pointer (some ⟨b, 0, none⟩))]), .int .i8 l, .nilIface, .slice none 0 0, .slice none 0 0, .bool false, .pointer (some ⟨cf, 0, none⟩)]) ∧ Below w.heap.size w w' := lev_any b cf l0 l w
/-- After Defaults: the settings, the empty lines, the rest. -/
theorem after_defaults {w w1 : World} (hB : Blk w1 (w.heap.size + 1) 38 cfCells) (hb : Below (w.heap.size + 1) (w.alloc (.cells #[.slice none 0 0] 27)) w1) : Blk w1 (w.heap.size + 1) 38 cfCells ∧ Blk w1 w.heap.size 27 #[.slice none 0 0] ∧ Below w.heap.size w w1 :=
  ⟨hB, (Blk.new w _ _).below hb (by omega), ((Below.refl w.heap.size w).alloc (Nat.le_refl _) _).trans (hb.mono (by omega))⟩
theorem after_new {w w1 w3 : World} {g : Int} (h : Blk w1 (w.heap.size + 1) 38 cfCells ∧ Blk w1 w.heap.size 27 #[.slice none 0 0] ∧ Below w.heap.size w w1) (h3 : Below (w1.setCell ⟨w.heap.size + 1, 9, none⟩ (.int .i8 g)).heap.size (w1.setCell ⟨w.heap.size + 1, 9, none⟩ (.int .i8 g)) w3) : Cf w3 (w.heap.size + 1) g ∧ Blk w3 w.heap.size 27 #[.slice none 0 0] ∧ Below w.heap.size w w3 := by
  have hl := h.2.1.far (p := ⟨w.heap.size + 1, 9, none⟩) (by simp) (.int .i8 g)
  have hb := h.2.2.setCell (p := ⟨w.heap.size + 1, 9, none⟩) (by simp) (.int .i8 g)
  exact ⟨(cf_set g h.1).e (KpE.below h3), hl.below h3 hl.lt, hb.trans (h3.mono hb.size)⟩
theorem i8_id {l : Int} (h0 : -1 ≤ l) (h1 : l ≤ 7) : IntKind.i8.wrap l = l := by
  have : l = -1 ∨ l = 0 ∨ l = 1 ∨ l = 2 ∨ l = 3 ∨ l = 4 ∨ l = 5 ∨ l = 6 ∨ l = 7 := by omega
  rcases this with rfl | rfl | rfl | rfl | rfl | rfl | rfl | rfl | rfl <;> decide
theorem x_full : (!(⟨#[120]⟩ : ByteArray).toList.isEmpty) = true := by
  rw [Lib.toList_data]
  rfl
def passB (lv g l : Int) : Bool := decide (lv ≤ l ∧ g ≤ l ∧ l < 7)
/-- What LPass gives. -/
def PassRet (v : Bool) (w : World) (e : Ending) (w' : World) : Prop := e = .returned (.bool v) ∧ Below w.heap.size w w'
set_option maxRecDepth 100000 in
set_option maxHeartbeats 1000000 in
theorem lpass_off (lv g : Int) (w : World) (hv0 : -1 ≤ lv) (hv1 : lv ≤ 7) (hg0 : -1 ≤ g) (hg1 : g ≤ 7) : Calls Tryz.prog 4 #[.int .i64 lv, .int .i64 g, .int .i64 7] w (PassRet false w) := by
  have hwv := i8_id hv0 hv1
  have hwg := i8_id hg0 hg1
  have hwl : IntKind.i8.wrap 7 = 7 := by decide
  go_enter Tryz.func4, Tryz.ntmps4
  go_wp2_with (first
    | (go_at_call 10; refine (msg_nil _ _).mono ?_; rintro e w7 ⟨rfl, hw7⟩; subst hw7)
    | (go_at_call 9; have hLg : Lg (w4.alloc (.cells #[.iface 62 (.agg #[.iface 24 (.pointer (some ⟨w.heap.size, 0, none⟩))]), .int .i8 lv, .nilIface, .slice none 0 0, .slice none 0 0, .bool false, .pointer (some ⟨w.heap.size + 1, 0, none⟩)] 46)) w4.heap.size (w.heap.size + 1) w.heap.size lv := Blk.new w4 _ _; refine (with_off w4.heap.size _).mono ?_; rintro e w5 ⟨p, rfl, hp5, hw5⟩; subst hp5 hw5; have hb5 := Blk.alloc H4.out.2.1 (.cells #[.iface 62 (.agg #[.iface 24 (.pointer (some ⟨w.heap.size, 0, none⟩))]), .int .i8 lv, .nilIface, .slice none 0 0, .slice none 0 0, .bool false, .pointer (some ⟨w.heap.size + 1, 0, none⟩)] 46); have c0 := hb5.cell 0; simp at c0; clear hb5)
    | (go_at_call 8; refine (lev_x w.heap.size (w.heap.size + 1) (-1) lv _).mono ?_; rintro e w4 ⟨rfl, h4⟩; have H4 := Lib.hid (And.intro (H3.out.1.e (KpE.below h4)) (And.intro (H3.out.2.1.below h4 H3.out.2.1.lt) (H3.out.2.2.trans (h4.mono H3.out.2.2.size)))); clear h4)
    | (go_at_call 7; refine (new_any w.heap.size (w.heap.size + 1) _).mono ?_; rintro e w3 ⟨rfl, h3⟩; have H3 := Lib.hid (after_new H1.out h3); clear h3)
    | (go_at_call 6; refine (defaults_at (w.heap.size + 1) _ (by simp)).mono ?_; rintro e w1 ⟨rfl, hB1, hb1⟩; have H1 := Lib.hid (after_defaults hB1 hb1); have c9 := hB1.cell 9; have f9 := hB1.frozen 9; simp [cfCells] at c9; clear hB1 hb1))
  go_ret
  exact ⟨rfl, H4.out.2.2.alloc H4.out.2.2.size _⟩
set_option maxRecDepth 100000 in
set_option maxHeartbeats 1000000 in
theorem lpass_no (lv g l : Int) (w : World) (hv0 : -1 ≤ lv) (hv1 : lv ≤ 7) (hg0 : -1 ≤ g) (hg1 : g ≤ 7) (h0 : -1 ≤ l) (h6 : l ≤ 6) (hp : ¬ Pass lv g l) : Calls Tryz.prog 4 #[.int .i64 lv, .int .i64 g, .int .i64 l] w (PassRet false w) := by
  have hwv := i8_id hv0 hv1
  have hwg := i8_id hg0 hg1
  have hwl := i8_id h0 (by omega)
  go_enter Tryz.func4, Tryz.ntmps4
  go_wp2_with (first
    | (go_at_call 10; refine (msg_nil _ _).mono ?_; rintro e w7 ⟨rfl, hw7⟩; subst hw7)
    | (go_at_call 9; have hLg : Lg (w4.alloc (.cells #[.iface 62 (.agg #[.iface 24 (.pointer (some ⟨w.heap.size, 0, none⟩))]), .int .i8 lv, .nilIface, .slice none 0 0, .slice none 0 0, .bool false, .pointer (some ⟨w.heap.size + 1, 0, none⟩)] 46)) w4.heap.size (w.heap.size + 1) w.heap.size lv := Blk.new w4 _ _; refine (with_any _ w4.heap.size l _ h0 h6 (lnew_no w4.heap.size (w.heap.size + 1) w.heap.size lv g l _ hLg (H4.out.1.e (Kp.alloc w4 _).e) hp)).mono ?_; rintro e w5 ⟨p, rfl, hp5, hw5⟩; subst hp5 hw5; have hb5 := Blk.alloc H4.out.2.1 (.cells #[.iface 62 (.agg #[.iface 24 (.pointer (some ⟨w.heap.size, 0, none⟩))]), .int .i8 lv, .nilIface, .slice none 0 0, .slice none 0 0, .bool false, .pointer (some ⟨w.heap.size + 1, 0, none⟩)] 46); have c0 := hb5.cell 0; simp at c0; clear hb5)
    | (go_at_call 8; refine (lev_x w.heap.size (w.heap.size + 1) (-1) lv _).mono ?_; rintro e w4 ⟨rfl, h4⟩; have H4 := Lib.hid (And.intro (H3.out.1.e (KpE.below h4)) (And.intro (H3.out.2.1.below h4 H3.out.2.1.lt) (H3.out.2.2.trans (h4.mono H3.out.2.2.size)))); clear h4)
    | (go_at_call 7; refine (new_any w.heap.size (w.heap.size + 1) _).mono ?_; rintro e w3 ⟨rfl, h3⟩; have H3 := Lib.hid (after_new H1.out h3); clear h3)
    | (go_at_call 6; refine (defaults_at (w.heap.size + 1) _ (by simp)).mono ?_; rintro e w1 ⟨rfl, hB1, hb1⟩; have H1 := Lib.hid (after_defaults hB1 hb1); have c9 := hB1.cell 9; have f9 := hB1.frozen 9; simp [cfCells] at c9; clear hB1 hb1))
  go_ret
  exact ⟨rfl, H4.out.2.2.alloc H4.out.2.2.size _⟩
set_option maxRecDepth 100000 in
set_option maxHeartbeats 1000000 in
theorem lpass_yes (lv g l : Int) (w : World) (hv0 : -1 ≤ lv) (hv1 : lv ≤ 7) (hg0 : -1 ≤ g) (hg1 : g ≤ 7) (h0 : -1 ≤ l) (h6 : l ≤ 6) (hp : Pass lv g l) : Calls Tryz.prog 4 #[.int .i64 lv, .int .i64 g, .int .i64 l] w (PassRet true w) := by
  have hwv := i8_id hv0 hv1
  have hwg := i8_id hg0 hg1
  have hwl := i8_id h0 (by omega)
  have hl7 : (l != 7) = true := by simp; omega
  go_enter Tryz.func4, Tryz.ntmps4
  go_wp2_with (first
    | (go_at_call 10; refine (msg_some (WrRet w.heap.size w.heap.size w5) ev ⟨#[120]⟩ _ (msg_any w.heap.size _ ev (w.heap.size + 1) w.heap.size n5 cp5 g l P5 A5 ⟨#[120]⟩ w5 H5.out.1 H5.out.2.2.1 H5.out.2.2.2.1 (by have := H5.out.2.1; omega) H5.out.2.2.2.2.2 (by have := H4.out.2.2.size; simp; omega) hl7 x_plain (by decide) x_full message_plain)).mono ?_; rintro e w7 ⟨rfl, ⟨A7, c7, n7, hblk, hn7⟩, hbel⟩; have c0 := hblk.cell 0; simp at c0; have H7 := Lib.hid hbel; clear hblk hbel)
    | (go_at_call 9; have hLg : Lg (w4.alloc (.cells #[.iface 62 (.agg #[.iface 24 (.pointer (some ⟨w.heap.size, 0, none⟩))]), .int .i8 lv, .nilIface, .slice none 0 0, .slice none 0 0, .bool false, .pointer (some ⟨w.heap.size + 1, 0, none⟩)] 46)) w4.heap.size (w.heap.size + 1) w.heap.size lv := Blk.new w4 _ _; have hCf := H4.out.1.e (Kp.alloc w4 (.cells #[.iface 62 (.agg #[.iface 24 (.pointer (some ⟨w.heap.size, 0, none⟩))]), .int .i8 lv, .nilIface, .slice none 0 0, .slice none 0 0, .bool false, .pointer (some ⟨w.heap.size + 1, 0, none⟩)] 46)).e; refine (with_any _ w4.heap.size l _ h0 h6 (lnew_yes w4.heap.size (w.heap.size + 1) w.heap.size lv g l _ hLg hCf hp h0 h6)).mono ?_; rintro e w5 ⟨p, rfl, ev, P5, n5, cp5, A5, rfl, q1, q2, q3⟩; have hs5 : Blk w5 w.heap.size 27 #[.slice none 0 0] := KpE.below q3 _ _ _ (H4.out.2.1.alloc _) (by decide) (by decide); have H5 := Lib.hid (And.intro q1 (And.intro q2 (And.intro (hCf.e (KpE.below q3)) (And.intro (show Sink w5 w.heap.size w.heap.size (.slice none 0 0) [] from ⟨hs5, World.ownsRow_nil _ _ _ _, Nat.le_refl _⟩) (And.intro ((H4.out.2.2.alloc H4.out.2.2.size _).trans (q3.mono (by have := H4.out.2.2.size; simp; omega))) q3.size))))); clear q1 q2 q3 hs5 hCf)
    | (go_at_call 8; refine (lev_x w.heap.size (w.heap.size + 1) (-1) lv _).mono ?_; rintro e w4 ⟨rfl, h4⟩; have H4 := Lib.hid (And.intro (H3.out.1.e (KpE.below h4)) (And.intro (H3.out.2.1.below h4 H3.out.2.1.lt) (H3.out.2.2.trans (h4.mono H3.out.2.2.size)))); clear h4)
    | (go_at_call 7; refine (new_any w.heap.size (w.heap.size + 1) _).mono ?_; rintro e w3 ⟨rfl, h3⟩; have H3 := Lib.hid (after_new H1.out h3); clear h3)
    | (go_at_call 6; refine (defaults_at (w.heap.size + 1) _ (by simp)).mono ?_; rintro e w1 ⟨rfl, hB1, hb1⟩; have H1 := Lib.hid (after_defaults hB1 hb1); have c9 := hB1.cell 9; have f9 := hB1.frozen 9; simp [cfCells] at c9; clear hB1 hb1))
  go_ret
  exact ⟨ret_bool (decide_eq_true (show 0 < n7 by omega)), H5.out.2.2.2.2.1.trans H7.out⟩
theorem lpass_any (lv g l : Int) (w : World) (hv0 : -1 ≤ lv) (hv1 : lv ≤ 7) (hg0 : -1 ≤ g) (hg1 : g ≤ 7) (h0 : -1 ≤ l) (h7 : l ≤ 7) : Calls Tryz.prog 4 #[.int .i64 lv, .int .i64 g, .int .i64 l] w (PassRet (passB lv g l) w) := by
  by_cases hl : l = 7
  · subst hl
    have : passB lv g 7 = false := by unfold passB; simp
    rw [this]
    exact lpass_off lv g w hv0 hv1 hg0 hg1
  · by_cases hp : Pass lv g l
    · have : passB lv g l = true := by unfold passB; unfold Pass at hp; simp; omega
      rw [this]
      exact lpass_yes lv g l w hv0 hv1 hg0 hg1 h0 (by omega) hp
    · have : passB lv g l = false := by unfold passB; unfold Pass at hp; simp only [decide_eq_false_iff_not]; omega
      rw [this]
      exact lpass_no lv g l w hv0 hv1 hg0 hg1 h0 (by omega) hp
end Go.Proofs.YtdbnconphcaclaaGreatDoor
