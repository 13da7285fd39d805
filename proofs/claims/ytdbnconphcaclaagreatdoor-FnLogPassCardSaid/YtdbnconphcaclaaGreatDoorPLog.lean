/-
  zerolog's loggers over impl's lines: should, newEvent, WithLevel. Conditions: as each theorem says.
-/
import Derived.Test.YtdbnconphcaclaaGreatDoorPMsg
namespace Go.Proofs.YtdbnconphcaclaaGreatDoor
open Go.RowKit
set_option linter.unusedVariables false

/-- A logger at lg. -/
def Lg (w : World) (lg cf b : Nat) (lv : Int) : Prop := Blk w lg 46 #[.iface 62 (.agg #[.iface 24 (.pointer (some ⟨b, 0, none⟩))]), .int .i8 lv, .nilIface, .slice none 0 0, .slice none 0 0, .bool false, .pointer (some ⟨cf, 0, none⟩)]
theorem Lg.e {w w' : World} {lg cf b : Nat} {lv : Int} (h : Lg w lg cf b lv) (k : KpE w w') : Lg w' lg cf b lv := k _ _ _ h (by decide) (by decide)
set_option maxRecDepth 100000 in
theorem disabled_any (lg cf b : Nat) (lv : Int) (w : World) (h : Lg w lg cf b lv) : Calls Tryz.prog 31 #[.pointer (some ⟨lg, 0, none⟩)] w fun e w' => e = .returned (.bool (lv == 7)) ∧ w = w' := by
  have c0 := h.cell 0
  have c1 := h.cell 1
  simp at c0 c1
  clear h
  go_enter Tryz.func31, Tryz.ntmps31
  go_wp2
  go_ret
  exact ⟨rfl, rfl⟩
def Pass (lv g l : Int) : Prop := lv ≠ 7 ∧ lv ≤ l ∧ g ≤ l
set_option maxRecDepth 100000 in
theorem should_yes (lg cf b : Nat) (lv g l : Int) (w : World) (h : Lg w lg cf b lv) (hc : Cf w cf g) (hp : Pass lv g l) : Calls Tryz.prog 23 #[.pointer (some ⟨lg, 0, none⟩), .int .i8 l] w fun e w' => e = .returned (.bool true) ∧ w = w' := by
  obtain ⟨h1, h2, h3⟩ := hp
  have c1 := h.cell 1
  have c2 := h.cell 2
  have c6 := h.cell 6
  simp at c1 c2 c6
  have c9 := hc.c9
  have h7 : (lv == 7) = false := by simp; omega
  have H := Lib.hid h
  clear h hc
  go_enter Tryz.func23, Tryz.ntmps23
  go_wp2_with (go_at_call 31; refine (disabled_any lg cf b lv _ H.out).mono ?_; rintro e w' ⟨rfl, rfl⟩)
  go_ret
  exact ⟨rfl, rfl⟩
set_option maxRecDepth 100000 in
theorem should_no (lg cf b : Nat) (lv g l : Int) (w : World) (h : Lg w lg cf b lv) (hc : Cf w cf g) (hp : ¬ Pass lv g l) : Calls Tryz.prog 23 #[.pointer (some ⟨lg, 0, none⟩), .int .i8 l] w fun e w' => e = .returned (.bool false) ∧ w = w' := by
  unfold Pass at hp
  have c1 := h.cell 1
  have c2 := h.cell 2
  have c6 := h.cell 6
  simp at c1 c2 c6
  have c9 := hc.c9
  have H := Lib.hid h
  clear h hc
  by_cases h7 : lv = 7
  · have h7' : (lv == 7) = true := by simp; omega
    clear hp h7
    go_enter Tryz.func23, Tryz.ntmps23
    go_wp2_with (go_at_call 31; refine (disabled_any lg cf b lv _ H.out).mono ?_; rintro e w' ⟨rfl, rfl⟩)
    go_ret
    exact ⟨rfl, rfl⟩
  · have h7' : (lv == 7) = false := by simp; omega
    by_cases h1 : l < lv
    · clear hp h7
      go_enter Tryz.func23, Tryz.ntmps23
      go_wp2_with (go_at_call 31; refine (disabled_any lg cf b lv _ H.out).mono ?_; rintro e w' ⟨rfl, rfl⟩)
      go_ret
      exact ⟨rfl, rfl⟩
    · have h2 : l < g := by omega
      clear hp h7
      go_enter Tryz.func23, Tryz.ntmps23
      go_wp2_with (go_at_call 31; refine (disabled_any lg cf b lv _ H.out).mono ?_; rintro e w' ⟨rfl, rfl⟩)
      go_ret
      exact ⟨rfl, rfl⟩
/-- What a call that gives an event gives. -/
def EvPost (S : Option Addr → World → Prop) (e : Ending) (w' : World) : Prop := ∃ p, e = .returned (.pointer p) ∧ S p w'
def NoEv (w : World) (p : Option Addr) (w' : World) : Prop := p = none ∧ w = w'
def SomeEv (cf b : Nat) (l : Int) (w : World) (p : Option Addr) (w' : World) : Prop := ∃ ev P n c A, p = some ⟨ev, 0, none⟩ ∧ EvS w' w.heap.size ev cf b l (.slice P n c) A ∧ A.length ≤ 100 ∧ Below w.heap.size w w'
set_option maxRecDepth 100000 in
theorem lnew_no (lg cf b : Nat) (lv g l : Int) (w : World) (h : Lg w lg cf b lv) (hc : Cf w cf g) (hp : ¬ Pass lv g l) : Calls Tryz.prog 18 #[.pointer (some ⟨lg, 0, none⟩), .int .i8 l] w (EvPost (NoEv w)) := by
  have H := Lib.hid (And.intro h hc)
  clear h hc
  go_enter Tryz.func18, Tryz.ntmps18
  go_wp2_with (go_at_call 23; refine (should_no lg cf b lv g l _ H.out.1 H.out.2 hp).mono ?_; rintro e w' ⟨rfl, rfl⟩)
  go_ret
  exact ⟨_, rfl, rfl, rfl⟩
theorem lname_plain (l : Int) (h0 : -1 ≤ l) (h1 : l ≤ 7) : Plain (lstr l) ∧ (lstr l).size ≤ 20 := by
  have hl : l = -1 ∨ l = 0 ∨ l = 1 ∨ l = 2 ∨ l = 3 ∨ l = 4 ∨ l = 5 ∨ l = 6 ∨ l = 7 := by omega
  rcases hl with rfl | rfl | rfl | rfl | rfl | rfl | rfl | rfl | rfl <;> exact ⟨by unfold Plain; decide, by decide⟩
theorem level_plain : Plain ⟨#[108, 101, 118, 101, 108]⟩ := by unfold Plain; decide
theorem message_plain : Plain ⟨#[109, 101, 115, 115, 97, 103, 101]⟩ := by unfold Plain; decide
theorem x_plain : Plain ⟨#[120]⟩ := by unfold Plain; decide
theorem some_of {w w1 w2 : World} {ev cf b n c : Nat} {l : Int} {P : Option Addr} {A : List UInt8} (h : EvS w2 w.heap.size ev cf b l (.slice P n c) A) (hA : A.length ≤ 100) (hb : Below w.heap.size w w1) (hb2 : Below w.heap.size w1 w2) : EvPost (SomeEv cf b l w) (.returned (.pointer (some ⟨ev, 0, none⟩))) w2 :=
  ⟨_, rfl, ev, P, n, c, A, rfl, h, hA, hb.trans hb2⟩
set_option maxRecDepth 100000 in
set_option maxHeartbeats 1000000 in
theorem lnew_yes (lg cf b : Nat) (lv g l : Int) (w : World) (h : Lg w lg cf b lv) (hc : Cf w cf g) (hp : Pass lv g l) (h0 : -1 ≤ l) (h6 : l ≤ 6) : Calls Tryz.prog 18 #[.pointer (some ⟨lg, 0, none⟩), .int .i8 l] w (EvPost (SomeEv cf b l w)) := by
  have c0 := h.cell 0
  have c3 := h.cell 3
  have c4 := h.cell 4
  have c5 := h.cell 5
  have c6 := h.cell 6
  simp at c0 c3 c4 c5 c6
  have H := Lib.hid (And.intro h hc)
  clear h hc
  by_cases hl6 : l = 6
  · have hn6 : (l != 6) = false := by simp; omega
    clear hl6
    go_enter Tryz.func18, Tryz.ntmps18
    go_wp2_with (go_at_call 23; refine (should_yes lg cf b lv g l _ H.out.1 H.out.2 hp).mono ?_; rintro e w' ⟨rfl, rfl⟩)
    go_region_held3 (fun W => W.cell? ⟨lg, 0, none⟩ = some (.iface 62 (.agg #[.iface 24 (.pointer (some ⟨b, 0, none⟩))])) ∧ W.cell? ⟨lg, 4, none⟩ = some (.slice none 0 0) ∧ W.cell? ⟨lg, 5, none⟩ = some (.bool false) ∧ W.cell? ⟨lg, 6, none⟩ = some (.pointer (some ⟨cf, 0, none⟩))) (first | exact ⟨d0, d4, d5, d6⟩ | exact ⟨c0, c4, c5, c6⟩)
      (first
        | (go_at_call 24; refine (new_event cf b g l _ (show Cf w.drew cf g from H.out.2)).mono ?_; rintro e w1 ⟨ev, v1, A1, rfl, h1, h2, h3⟩; have hL1 := Lg.e (w := w.drew) H.out.1 (KpE.below h3); have hC1 := Cf.e (w := w.drew) H.out.2 (KpE.below h3); have d0 := hL1.cell 0; have d4 := hL1.cell 4; have d5 := hL1.cell 5; have d6 := hL1.cell 6; have d3 := hL1.cell 3; simp at d0 d3 d4 d5 d6; have k1 := hC1.c1; obtain ⟨P1, cp1, rfl⟩ := own_slice h1.2.1; have H1 := Lib.hid (And.intro h1 (And.intro h2 (And.intro h3 (And.intro hL1 hC1)))); clear h1 h2 h3 hL1 hC1))
    go_wp2
    go_ret
    exact some_of H1.out.1 (by have := H1.out.2.1; omega) ((Below.refl _ w).drew) H1.out.2.2.1
  · have hn6 : (l != 6) = true := by simp; omega
    have hpl := Lib.hid (lname_plain l h0 (by omega))
    clear hl6
    go_enter Tryz.func18, Tryz.ntmps18
    go_wp2_with (go_at_call 23; refine (should_yes lg cf b lv g l _ H.out.1 H.out.2 hp).mono ?_; rintro e w' ⟨rfl, rfl⟩)
    go_region_held3 (fun W => W.cell? ⟨lg, 0, none⟩ = some (.iface 62 (.agg #[.iface 24 (.pointer (some ⟨b, 0, none⟩))])) ∧ W.cell? ⟨lg, 4, none⟩ = some (.slice none 0 0) ∧ W.cell? ⟨lg, 5, none⟩ = some (.bool false) ∧ W.cell? ⟨lg, 6, none⟩ = some (.pointer (some ⟨cf, 0, none⟩))) (first | exact ⟨d0, d4, d5, d6⟩ | exact ⟨c0, c4, c5, c6⟩)
      (first
        | (go_at_call 24; refine (new_event cf b g l _ (show Cf w.drew cf g from H.out.2)).mono ?_; rintro e w1 ⟨ev, v1, A1, rfl, h1, h2, h3⟩; have hL1 := Lg.e (w := w.drew) H.out.1 (KpE.below h3); have hC1 := Cf.e (w := w.drew) H.out.2 (KpE.below h3); have d0 := hL1.cell 0; have d4 := hL1.cell 4; have d5 := hL1.cell 5; have d6 := hL1.cell 6; have d3 := hL1.cell 3; simp at d0 d3 d4 d5 d6; have k1 := hC1.c1; obtain ⟨P1, cp1, rfl⟩ := own_slice h1.2.1; have H1 := Lib.hid (And.intro h1 (And.intro h2 (And.intro h3 (And.intro hL1 hC1)))); clear h1 h2 h3 hL1 hC1))
    go_wp2
    go_region_held3 (fun W => W.cell? ⟨lg, 6, none⟩ = some (.pointer (some ⟨cf, 0, none⟩)) ∧ W.cell? ⟨cf, 1, none⟩ = some (.string ⟨#[108, 101, 118, 101, 108]⟩)) (first | exact ⟨i6, i1⟩ | exact ⟨d6, k1⟩)
      (first
        | (go_at_call 25; refine (str_any w.drew.heap.size ev cf b A1.length cp1 g l P1 A1 ⟨#[108, 101, 118, 101, 108]⟩ (lstr l) _ (show EvS w1.drew _ _ _ _ _ _ _ from H1.out.1) (show Cf w1.drew cf g from H1.out.2.2.2.2) (by have := H1.out.2.1; omega) H1.out.2.2.1.size level_plain hpl.out.1 (by decide) hpl.out.2).mono ?_; rintro e w3 ⟨rfl, P3, n3, cp3, A3, q1, q2, q3, q4⟩; have hL3 := Lg.e (w := w1.drew) H1.out.2.2.2.1 q3; have hC3 := Cf.e (w := w1.drew) H1.out.2.2.2.2 q3; have i3 := hL3.cell 3; have i6 := hL3.cell 6; simp at i3 i6; have i1 := hC3.c1; have H3 := Lib.hid (And.intro q1 (And.intro q2 q4)); clear q1 q2 q3 q4 hL3 hC3)
        | (go_at_call 22; refine (level_string l _ h0 (by omega)).mono ?_; rintro e w' ⟨rfl, rfl⟩))
    go_wp2
    go_ret
    exact some_of H3.out.1 (by have := H1.out.2.1; have := H3.out.2.1; omega) (((Below.refl _ w).drew.trans H1.out.2.2.1).drew) H3.out.2.2
set_option maxRecDepth 100000 in
theorem trace_any (S : Option Addr → World → Prop) (lg : Nat) (w : World) (h : Calls Tryz.prog 18 #[.pointer (some ⟨lg, 0, none⟩), .int .i8 (-1)] w (EvPost S)) : Calls Tryz.prog 13 #[.pointer (some ⟨lg, 0, none⟩)] w (EvPost S) := by
  have H := Lib.hid h
  clear h
  go_enter Tryz.func13, Tryz.ntmps13
  go_wp2_with (go_at_call 18; refine H.out.mono ?_; rintro e w' ⟨p, rfl, hq⟩; have HQ := Lib.hid hq; clear hq)
  go_ret
  exact ⟨_, rfl, HQ.out⟩
set_option maxRecDepth 100000 in
theorem debug_any (S : Option Addr → World → Prop) (lg : Nat) (w : World) (h : Calls Tryz.prog 18 #[.pointer (some ⟨lg, 0, none⟩), .int .i8 (0)] w (EvPost S)) : Calls Tryz.prog 14 #[.pointer (some ⟨lg, 0, none⟩)] w (EvPost S) := by
  have H := Lib.hid h
  clear h
  go_enter Tryz.func14, Tryz.ntmps14
  go_wp2_with (go_at_call 18; refine H.out.mono ?_; rintro e w' ⟨p, rfl, hq⟩; have HQ := Lib.hid hq; clear hq)
  go_ret
  exact ⟨_, rfl, HQ.out⟩
set_option maxRecDepth 100000 in
theorem info_any (S : Option Addr → World → Prop) (lg : Nat) (w : World) (h : Calls Tryz.prog 18 #[.pointer (some ⟨lg, 0, none⟩), .int .i8 (1)] w (EvPost S)) : Calls Tryz.prog 15 #[.pointer (some ⟨lg, 0, none⟩)] w (EvPost S) := by
  have H := Lib.hid h
  clear h
  go_enter Tryz.func15, Tryz.ntmps15
  go_wp2_with (go_at_call 18; refine H.out.mono ?_; rintro e w' ⟨p, rfl, hq⟩; have HQ := Lib.hid hq; clear hq)
  go_ret
  exact ⟨_, rfl, HQ.out⟩
set_option maxRecDepth 100000 in
theorem warn_any (S : Option Addr → World → Prop) (lg : Nat) (w : World) (h : Calls Tryz.prog 18 #[.pointer (some ⟨lg, 0, none⟩), .int .i8 (2)] w (EvPost S)) : Calls Tryz.prog 16 #[.pointer (some ⟨lg, 0, none⟩)] w (EvPost S) := by
  have H := Lib.hid h
  clear h
  go_enter Tryz.func16, Tryz.ntmps16
  go_wp2_with (go_at_call 18; refine H.out.mono ?_; rintro e w' ⟨p, rfl, hq⟩; have HQ := Lib.hid hq; clear hq)
  go_ret
  exact ⟨_, rfl, HQ.out⟩
set_option maxRecDepth 100000 in
theorem error_any (S : Option Addr → World → Prop) (lg : Nat) (w : World) (h : Calls Tryz.prog 18 #[.pointer (some ⟨lg, 0, none⟩), .int .i8 (3)] w (EvPost S)) : Calls Tryz.prog 17 #[.pointer (some ⟨lg, 0, none⟩)] w (EvPost S) := by
  have H := Lib.hid h
  clear h
  go_enter Tryz.func17, Tryz.ntmps17
  go_wp2_with (go_at_call 18; refine H.out.mono ?_; rintro e w' ⟨p, rfl, hq⟩; have HQ := Lib.hid hq; clear hq)
  go_ret
  exact ⟨_, rfl, HQ.out⟩
set_option maxRecDepth 100000 in
theorem log_any (S : Option Addr → World → Prop) (lg : Nat) (w : World) (h : Calls Tryz.prog 18 #[.pointer (some ⟨lg, 0, none⟩), .int .i8 (6)] w (EvPost S)) : Calls Tryz.prog 19 #[.pointer (some ⟨lg, 0, none⟩)] w (EvPost S) := by
  have H := Lib.hid h
  clear h
  go_enter Tryz.func19, Tryz.ntmps19
  go_wp2_with (go_at_call 18; refine H.out.mono ?_; rintro e w' ⟨p, rfl, hq⟩; have HQ := Lib.hid hq; clear hq)
  go_ret
  exact ⟨_, rfl, HQ.out⟩
set_option maxRecDepth 100000 in
theorem with_any (S : Option Addr → World → Prop) (lg : Nat) (l : Int) (w : World) (h0 : -1 ≤ l) (h6 : l ≤ 6) (h : Calls Tryz.prog 18 #[.pointer (some ⟨lg, 0, none⟩), .int .i8 l] w (EvPost S)) : Calls Tryz.prog 9 #[.pointer (some ⟨lg, 0, none⟩), .int .i8 l] w (EvPost S) := by
  have H := Lib.hid h
  clear h
  have hl : l = -1 ∨ l = 0 ∨ l = 1 ∨ l = 2 ∨ l = 3 ∨ l = 4 ∨ l = 5 ∨ l = 6 := by omega
  clear h0 h6
  rcases hl with rfl | rfl | rfl | rfl | rfl | rfl | rfl | rfl
  all_goals
    go_enter Tryz.func9, Tryz.ntmps9
    go_wp2_with (first
      | (go_at_call 13; refine (trace_any S lg _ H.out).mono ?_; rintro e w' ⟨p, rfl, hq⟩; have HQ := Lib.hid hq; clear hq)
      | (go_at_call 14; refine (debug_any S lg _ H.out).mono ?_; rintro e w' ⟨p, rfl, hq⟩; have HQ := Lib.hid hq; clear hq)
      | (go_at_call 15; refine (info_any S lg _ H.out).mono ?_; rintro e w' ⟨p, rfl, hq⟩; have HQ := Lib.hid hq; clear hq)
      | (go_at_call 16; refine (warn_any S lg _ H.out).mono ?_; rintro e w' ⟨p, rfl, hq⟩; have HQ := Lib.hid hq; clear hq)
      | (go_at_call 17; refine (error_any S lg _ H.out).mono ?_; rintro e w' ⟨p, rfl, hq⟩; have HQ := Lib.hid hq; clear hq)
      | (go_at_call 19; refine (log_any S lg _ H.out).mono ?_; rintro e w' ⟨p, rfl, hq⟩; have HQ := Lib.hid hq; clear hq)
      | (go_at_call 18; refine H.out.mono ?_; rintro e w' ⟨p, rfl, hq⟩; have HQ := Lib.hid hq; clear hq))
    go_ret
    exact ⟨_, rfl, HQ.out⟩
set_option maxRecDepth 100000 in
theorem with_off (lg : Nat) (w : World) : Calls Tryz.prog 9 #[.pointer (some ⟨lg, 0, none⟩), .int .i8 7] w (EvPost (NoEv w)) := by
  go_enter Tryz.func9, Tryz.ntmps9
  go_wp2
  go_ret
  exact ⟨_, rfl, rfl, rfl⟩
end Go.Proofs.YtdbnconphcaclaaGreatDoor
