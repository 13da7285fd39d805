/-
  zerolog's events over impl's lines: newEvent, Str, write, msg. Conditions: as each theorem says.
-/
import Derived.Test.YtdbnconphcaclaaGreatDoorPSink
import Derived.Laws.MakeOwn
import Derived.Deep.RegionHeld3
namespace Go.Proofs.YtdbnconphcaclaaGreatDoor
open Go.RowKit
set_option linter.unusedVariables false

/-- The world at hand becomes a letter. -/
theorem gen_world {P : Program} {c : Code} {Q : Exit → Act → World → Prop} {a : Act} {w : World} (R : World → Prop) (hR : R w) (h : ∀ w', R w' → c.wp P Q a w') : c.wp P Q a w := h w hR
theorem gen_exit {Q : Exit → Act → World → Prop} {e : Exit} {a : Act} {w : World} (R : World → Prop) (hR : R w) (h : ∀ w', R w' → Q e a w') : Q e a w := h w hR
/-- Blocks of other types than bytes and events stay. -/
def KpE (w w' : World) : Prop := ∀ (g : Nat) (T : TypeId) (cs : Array Value), Blk w g T cs → T ≠ 5 → T ≠ 75 → Blk w' g T cs
theorem KpE.trans {a b c : World} (h : KpE a b) (k : KpE b c) : KpE a c := fun g T cs hb h1 h2 => k g T cs (h g T cs hb h1 h2) h1 h2
theorem KpE.refl (w : World) : KpE w w := fun _ _ _ h _ _ => h
theorem Kp.e {w w' : World} (h : Kp w w') : KpE w w' := fun g T cs hb h1 _ => h g T cs hb h1
theorem KpE.set_ {w : World} {e j : Nat} {u : Value} {cs : Array Value} (h : Blk w e 75 cs) : KpE w (w.setCell ⟨e, j, none⟩ u) := fun g T cs' hb _ h2 => hb.far (Blk.ne_ hb h h2) u
theorem KpE.below {w w' : World} (h : Below w.heap.size w w') : KpE w w' := fun g T cs hb _ _ => hb.below h hb.lt
/-- The settings. -/
def Cf (w : World) (cf : Nat) (g : Int) : Prop := ∃ cs, Blk w cf 38 cs ∧ cs[1]? = some (.string ⟨#[108, 101, 118, 101, 108]⟩) ∧ cs[2]? = some (.string ⟨#[109, 101, 115, 115, 97, 103, 101]⟩) ∧ cs[9]? = some (.int .i8 g) ∧ cs[10]? = some (.bool false) ∧ cs[15]? = some (.iface 56 (.agg #[]))
theorem Cf.e {w w' : World} {cf : Nat} {g : Int} (h : Cf w cf g) (k : KpE w w') : Cf w' cf g := by
  obtain ⟨cs, h1, h2⟩ := h
  exact ⟨cs, k _ _ _ h1 (by decide) (by decide), h2⟩
theorem Cf.c1 {w : World} {cf : Nat} {g : Int} (h : Cf w cf g) : w.cell? ⟨cf, 1, none⟩ = some (.string ⟨#[108, 101, 118, 101, 108]⟩) := by
  obtain ⟨cs, h1, h2, h3, h4, h5, h6⟩ := h
  exact (h1.cell 1).trans h2
theorem Cf.c2 {w : World} {cf : Nat} {g : Int} (h : Cf w cf g) : w.cell? ⟨cf, 2, none⟩ = some (.string ⟨#[109, 101, 115, 115, 97, 103, 101]⟩) := by
  obtain ⟨cs, h1, h2, h3, h4, h5, h6⟩ := h
  exact (h1.cell 2).trans h3
theorem Cf.c9 {w : World} {cf : Nat} {g : Int} (h : Cf w cf g) : w.cell? ⟨cf, 9, none⟩ = some (.int .i8 g) := by
  obtain ⟨cs, h1, h2, h3, h4, h5, h6⟩ := h
  exact (h1.cell 9).trans h4
theorem Cf.c15 {w : World} {cf : Nat} {g : Int} (h : Cf w cf g) : w.cell? ⟨cf, 15, none⟩ = some (.iface 56 (.agg #[])) := by
  obtain ⟨cs, h1, h2, h3, h4, h5, h6⟩ := h
  exact (h1.cell 15).trans h6
/-- An event: its block e, its bytes v, which read A. -/
def EvS (w : World) (B e cf b : Nat) (l : Int) (v : Value) (A : List UInt8) : Prop := Blk w e 75 #[v, .iface 62 (.agg #[.iface 24 (.pointer (some ⟨b, 0, none⟩))]), .int .i8 l, .bool false, .slice none 0 0, .int .i64 0, .pointer (some ⟨cf, 0, none⟩)] ∧ OwnB w B v A ∧ B ≤ e ∧ 1 ≤ A.length
theorem ev_put {w w' : World} {B e : Nat} {v' : Value} {T : List UInt8} {cs : Array Value} (he : Blk w e 75 cs) (hBe : B ≤ e) (h : App B w T v' w') : Blk (w'.setCell ⟨e, 0, none⟩ v') e 75 (cs.setIfInBounds 0 v') ∧ OwnB (w'.setCell ⟨e, 0, none⟩ v') B v' T ∧ KpE w (w'.setCell ⟨e, 0, none⟩ v') ∧ Below B w (w'.setCell ⟨e, 0, none⟩ v') := by
  obtain ⟨h1, h2, h3, h4⟩ := h
  have he' := h3 _ _ _ he (by decide)
  refine ⟨he'.set_ 0 v', ?_, h3.e.trans (KpE.set_ he'), h2.setCell hBe _⟩
  exact World.ownsRow.kept h1 (only_setCell (World.grownBy.refl w' (some e)) (.inl rfl) v') (.inr (own_blk_ne h1 he' (by decide)))
theorem ev_set {w : World} {B e j : Nat} {v u : Value} {A : List UInt8} {cs : Array Value} (he : Blk w e 75 cs) (h : OwnB w B v A) : OwnB (w.setCell ⟨e, j, none⟩ u) B v A :=
  World.ownsRow.kept h (only_setCell (World.grownBy.refl w (some e)) (.inl rfl) u) (.inr (own_blk_ne h he (by decide)))
theorem method_begin (w : World) : (method 315 56 (.agg #[]) "AppendBeginMarker").run Tryz.prog w = .ok (84, .agg #[]) w := by kernel_rfl
theorem method_end (w : World) : (method 315 56 (.agg #[]) "AppendEndMarker").run Tryz.prog w = .ok (90, .agg #[]) w := by kernel_rfl
theorem method_break (w : World) : (method 315 56 (.agg #[]) "AppendLineBreak").run Tryz.prog w = .ok (111, .agg #[]) w := by kernel_rfl
theorem method_key (w : World) : (method 315 56 (.agg #[]) "AppendKey").run Tryz.prog w = .ok (110, .agg #[]) w := by kernel_rfl
theorem method_string (w : World) : (method 315 56 (.agg #[]) "AppendString").run Tryz.prog w = .ok (115, .agg #[]) w := by kernel_rfl
theorem method_adapter (b : Nat) (w : World) : (method 315 62 (.agg #[.iface 24 (.pointer (some ⟨b, 0, none⟩))]) "WriteLevel").run Tryz.prog w = .ok (137, .agg #[.iface 24 (.pointer (some ⟨b, 0, none⟩))]) w := by kernel_rfl
/-- What an append gives: some more bytes. -/
def AppQ (B : Nat) (w : World) (k : Nat) (e : Ending) (w' : World) : Prop := ∃ A n c T, e = .returned (.slice A n c) ∧ App B w T (.slice A n c) w' ∧ 1 ≤ T.length ∧ T.length ≤ k
theorem AppRet.q {B k : Nat} {w w' : World} {T : List UInt8} {e : Ending} (h : AppRet B w T e w') (h1 : 1 ≤ T.length) (h2 : T.length ≤ k) : AppQ B w k e w' := by
  obtain ⟨v, rfl, h⟩ := h
  obtain ⟨A, c, rfl⟩ := own_slice h.1
  exact ⟨A, _, c, T, rfl, h, h1, h2⟩
theorem begin_q (B n c : Nat) (P : Option Addr) (A : List UInt8) (w : World) (h : OwnB w B (.slice P n c) A) (hl : A.length ≤ 900) (hB : B ≤ w.heap.size) : Calls Tryz.prog 84 #[.agg #[], .slice P n c] w (AppQ B w (A.length + 1)) :=
  (begin_any B _ A w h (by omega) hB).mono fun e w' hq => hq.q (by simp) (by simp)
theorem end_q (B n c : Nat) (P : Option Addr) (A : List UInt8) (w : World) (h : OwnB w B (.slice P n c) A) (hl : A.length ≤ 900) (hB : B ≤ w.heap.size) : Calls Tryz.prog 90 #[.agg #[], .slice P n c] w (AppQ B w (A.length + 1)) :=
  (end_any B _ A w h (by omega) hB).mono fun e w' hq => hq.q (by simp) (by simp)
theorem break_q (B n c : Nat) (P : Option Addr) (A : List UInt8) (w : World) (h : OwnB w B (.slice P n c) A) (hl : A.length ≤ 900) (hB : B ≤ w.heap.size) : Calls Tryz.prog 111 #[.agg #[], .slice P n c] w (AppQ B w (A.length + 1)) :=
  (break_any B _ A w h (by omega) hB).mono fun e w' hq => hq.q (by simp) (by simp)
theorem key_q (B n c : Nat) (P : Option Addr) (A : List UInt8) (s : ByteArray) (w : World) (h : OwnB w B (.slice P n c) A) (h0 : 1 ≤ A.length) (hl : A.length ≤ 900) (hs : Plain s) (hsz : s.size ≤ 20) (hB : B ≤ w.heap.size) : Calls Tryz.prog 110 #[.agg #[], .slice P n c, .string s] w (AppQ B w (A.length + 30)) := by
  refine (key_any B _ A s w h h0 hl hs hsz hB).mono ?_
  rintro e w' ⟨T, t1, t2, hq⟩
  exact hq.q (by omega) t1
theorem string_q (B n c : Nat) (P : Option Addr) (A : List UInt8) (s : ByteArray) (w : World) (h : OwnB w B (.slice P n c) A) (hl : A.length ≤ 900) (hs : Plain s) (hsz : s.size ≤ 20) (hB : B ≤ w.heap.size) : Calls Tryz.prog 115 #[.agg #[], .slice P n c, .string s] w (AppQ B w (A.length + 30)) := by
  refine (string_any B _ A s w h (by omega) hs (by omega) hB).mono fun e w' hq => hq.q (by simp; omega) ?_
  have := size_list s
  simp
  omega
theorem kept_bs {w w' : World} {Bs b : Nat} (h : Sink w Bs b (.slice none 0 0) []) (hB : Bs ≤ w.heap.size) (k : Kept w.drew w' b (.slice none 0 0)) : Below Bs w.drew w' :=
  ⟨k.1, k.2.1, k.2.2.1, k.2.2.2.1, fun i hi => k.2.2.2.2 i (Nat.lt_of_lt_of_le hi hB) (by have := h.2.2; omega) (by simp [Value.ownBlock])⟩
/-- What newEvent gives. -/
def NewRet (cf b : Nat) (l : Int) (w : World) (e : Ending) (w' : World) : Prop := ∃ ev v A, e = .returned (.pointer (some ⟨ev, 0, none⟩)) ∧ EvS w' w.heap.size ev cf b l v A ∧ A.length ≤ 10 ∧ Below w.heap.size w w'
theorem make_500 (w : World) : ∃ w', (Instr.makeSlice 43 (.int .i64 0) (.int .i64 500)).run Tryz.prog w = .ok (.slice (some ⟨w.heap.size, 0, none⟩) 0 500) w' ∧ OwnB w' w.heap.size (.slice (some ⟨w.heap.size, 0, none⟩) 0 500) [] ∧ Below w.heap.size w w' := by
  obtain ⟨ti, hi, hz0, hz, hz2⟩ := info_parts byte_info
  obtain ⟨w', h1, h2, h3⟩ := run_make_own (P := Tryz.prog) w w.heap.size 43 5 ti (.int .u8 0) 1 Tryz.underlying43 hi hz0 hz .i64 .i64 500 (by rw [hz2]; omega) (by unfold maxLen; omega) (Nat.le_refl _)
  exact ⟨w', h1, h2, (Below.refl w.heap.size w).grown h3 (Nat.le_refl _) (fun _ e => by cases e)⟩
theorem new_done {w w5 : World} {B ev cf b : Nat} {g l : Int} {v : Value} {T : List UInt8} (hE : Blk w5 ev 75 #[v, .nilIface, .int .i8 0, .bool false, .slice none 0 0, .int .i64 0, .pointer (some ⟨cf, 0, none⟩)]) (hO : OwnB w5 B v T) (hb : Below B w w5) (hBe : B ≤ ev) (hT : 1 ≤ T.length) :
    EvS (((w5.setCell ⟨ev, 1, none⟩ (.iface 62 (.agg #[.iface 24 (.pointer (some ⟨b, 0, none⟩))]))).setCell ⟨ev, 2, none⟩ (.int .i8 l)).setCell ⟨ev, 5, none⟩ (.int .i64 0)) B ev cf b l v T ∧ Below B w (((w5.setCell ⟨ev, 1, none⟩ (.iface 62 (.agg #[.iface 24 (.pointer (some ⟨b, 0, none⟩))]))).setCell ⟨ev, 2, none⟩ (.int .i8 l)).setCell ⟨ev, 5, none⟩ (.int .i64 0)) := by
  have h1 := hE.set_ 1 (.iface 62 (.agg #[.iface 24 (.pointer (some ⟨b, 0, none⟩))]))
  have h2 := h1.set_ 2 (.int .i8 l)
  have h3 := h2.set_ 5 (.int .i64 0)
  exact ⟨⟨by simpa using h3, ev_set h2 (ev_set h1 (ev_set hE hO)), hBe, hT⟩, ((hb.setCell hBe _).setCell hBe _).setCell hBe _⟩
set_option maxRecDepth 100000 in
set_option maxHeartbeats 1000000 in
theorem new_event (cf b : Nat) (g l : Int) (w : World) (hc : Cf w cf g) :
    Calls Tryz.prog 24 #[.iface 62 (.agg #[.iface 24 (.pointer (some ⟨b, 0, none⟩))]), .int .i8 l, .bool false, .pointer (some ⟨cf, 0, none⟩), .slice none 0 0] w (NewRet cf b l w) := by
  obtain ⟨w0, hmk, hown, hb0⟩ := make_500 w
  have hm := method_begin
  have hw0 := hb0.size
  have H := Lib.hid (And.intro hc (And.intro hown hb0))
  clear hc hown hb0
  go_enter Tryz.func24, Tryz.ntmps24
  go_wp2
  refine gen_world (R := fun W => Blk W w0.heap.size 75 #[.slice (some ⟨w.heap.size, 0, none⟩) 0 500, .nilIface, .int .i8 0, .bool false, .slice none 0 0, .int .i64 0, .pointer (some ⟨cf, 0, none⟩)] ∧ Cf W cf g ∧ OwnB W w.heap.size (.slice (some ⟨w.heap.size, 0, none⟩) 0 500) [] ∧ Below w.heap.size w W) ?_ ?_
  · have hB := H.out.2.2
    exact ⟨Blk.new w0 _ _, (H.out.1.e (KpE.below hB)).e (Kp.alloc w0 _).e, H.out.2.1.alloc _, hB.alloc hw0 _⟩
  rintro w5 ⟨hE, hC, hO, hB⟩
  have e0 := hE.cell 0
  have e6 := hE.cell 6
  simp at e0 e6
  have c15 := hC.c15
  have hBs : w.heap.size ≤ w5.heap.size := hB.size
  have HE := Lib.hid (And.intro hE (And.intro hC (And.intro hO hB)))
  clear hE hC hO hB
  refine wp_region_held_drew (S := fun W => W.cell? ⟨w0.heap.size, 6, none⟩ = some (.pointer (some ⟨cf, 0, none⟩)) ∧ W.cell? ⟨cf, 15, none⟩ = some (.iface 56 (.agg #[]))) (by kernel_rfl) ?_ (fun hHeld => ?_)
  · exact ⟨e6, c15⟩
  refine wpAnyH_take (i := 0) (oi := ⟨some 27, _, _, _, _, _⟩) (v := ?_) rfl (by kernel_rfl) (by kernel_rfl) (by kernel_rfl) (fun _ _ _ h => h) (Or.inl ⟨by rfl, ?_⟩) (by assumption) ?_
  rotate_left
  · intro W hW; (try dsimp only at hW); go_simp <;> with_reducible rfl
  (try simp only [Act.put, List.setIfInBounds_toArray, List.set_cons_zero, List.set_cons_succ])
  refine wpAnyH_take (i := 1) (oi := ⟨some 28, _, _, _, _, _⟩) (v := ?_) rfl (by kernel_rfl) (by kernel_rfl) (by kernel_rfl) (fun _ _ _ h => h) (Or.inl ⟨by rfl, ?_⟩) (by assumption) ?_
  rotate_left
  · intro W hW; (try dsimp only at hW); go_simp <;> with_reducible rfl
  (try simp only [Act.put, List.setIfInBounds_toArray, List.set_cons_zero, List.set_cons_succ])
  refine wpAnyH_take (i := 2) (oi := ⟨some 29, _, _, _, _, _⟩) (v := ?_) rfl (by kernel_rfl) (by kernel_rfl) (by kernel_rfl) (fun _ _ _ h => h) (Or.inl ⟨by rfl, ?_⟩) (by assumption) ?_
  rotate_left
  · intro W hW; (try dsimp only at hW); go_simp <;> with_reducible rfl
  (try simp only [Act.put, List.setIfInBounds_toArray, List.set_cons_zero, List.set_cons_succ])
  refine wpAnyH_take (i := 3) (oi := ⟨some 30, _, _, _, _, _⟩) (v := ?_) rfl (by kernel_rfl) (by kernel_rfl) (by kernel_rfl) (fun _ _ _ h => h) (Or.inl ⟨by rfl, ?_⟩) (by assumption) ?_
  rotate_left
  · intro W hW; (try dsimp only at hW); go_simp <;> with_reducible rfl
  (try simp only [Act.put, List.setIfInBounds_toArray, List.set_cons_zero, List.set_cons_succ])
  refine wpAnyH_take (i := 4) (oi := ⟨some 31, _, _, _, _, _⟩) (v := ?_) rfl (by kernel_rfl) (by kernel_rfl) (by kernel_rfl) (fun _ _ _ h => h) (Or.inl ⟨by rfl, ?_⟩) (by assumption) ?_
  rotate_left
  · intro W hW; (try dsimp only at hW); go_simp <;> with_reducible rfl
  (try simp only [Act.put, List.setIfInBounds_toArray, List.set_cons_zero, List.set_cons_succ])
  refine wpAnyH_take (i := 5) (oi := ⟨some 32, _, _, _, _, _⟩) (v := ?_) rfl (by kernel_rfl) (by kernel_rfl) (by kernel_rfl) (fun _ _ _ h => h) (Or.inl ⟨by rfl, ?_⟩) (by assumption) ?_
  rotate_left
  · intro W hW; (try dsimp only at hW); go_simp <;> with_reducible rfl
  (try simp only [Act.put, List.setIfInBounds_toArray, List.set_cons_zero, List.set_cons_succ])
  refine wpAnyH_take (i := 6) (oi := ⟨some 33, _, _, _, _, _⟩) (v := ?_) rfl (by kernel_rfl) (by kernel_rfl) (by kernel_rfl) (fun _ _ _ h => h) (Or.inl ⟨by rfl, ?_⟩) (by assumption) ?_
  rotate_left
  · intro W hW; (try dsimp only at hW); go_simp <;> with_reducible rfl
  (try simp only [Act.put, List.setIfInBounds_toArray, List.set_cons_zero, List.set_cons_succ])
  refine wpAnyH_take (i := 7) (oi := ⟨some 34, _, _, _, _, _⟩) (v := ?_) rfl (by kernel_rfl) (by kernel_rfl) (by kernel_rfl) (fun _ _ _ h => h) (Or.inl ⟨by rfl, ?_⟩) (by assumption) ?_
  rotate_left
  · intro W hW; (try dsimp only at hW); go_simp <;> with_reducible rfl
  (try simp only [Act.put, List.setIfInBounds_toArray, List.set_cons_zero, List.set_cons_succ])
  refine wpAnyH_take (i := 8) (oi := ⟨some 35, _, _, _, _, _⟩) (v := ?_) rfl (by kernel_rfl) (by kernel_rfl) (by kernel_rfl) (fun _ _ _ h => h) (Or.inl ⟨by rfl, ?_⟩) (by assumption) ?_
  rotate_left
  · intro W hW; (try dsimp only at hW); go_simp <;> with_reducible rfl
  (try simp only [Act.put, List.setIfInBounds_toArray, List.set_cons_zero, List.set_cons_succ])
  refine wpAnyH_take (i := 9) (oi := ⟨some 36, _, _, _, _, _⟩) (v := ?_) rfl (by kernel_rfl) (by kernel_rfl) (by kernel_rfl) (fun _ _ _ h => h) (Or.inl ⟨by rfl, ?_⟩) (by assumption) ?_
  rotate_left
  · intro W hW; (try dsimp only at hW); go_simp <;> with_reducible rfl
  (try simp only [Act.put, List.setIfInBounds_toArray, List.set_cons_zero, List.set_cons_succ])
  refine wpAnyH_take (i := 10) (oi := ⟨some 37, _, _, _, _, _⟩) (v := ?_) rfl (by kernel_rfl) (by kernel_rfl) (by kernel_rfl) (fun _ _ _ h => h) (Or.inl ⟨by rfl, ?_⟩) (by assumption) ?_
  rotate_left
  · intro W hW; (try dsimp only at hW); go_simp <;> with_reducible rfl
  (try simp only [Act.put, List.setIfInBounds_toArray, List.set_cons_zero, List.set_cons_succ])
  refine wpAnyH_take (i := 12) (oi := ⟨some 39, _, _, _, _, _⟩) (v := ?_) rfl (by kernel_rfl) (by kernel_rfl) (by kernel_rfl) (fun _ _ _ h => h) (Or.inl ⟨by rfl, ?_⟩) (by assumption) ?_
  rotate_left
  · intro W hW; (try dsimp only at hW); go_simp <;> with_reducible rfl
  (try simp only [Act.put, List.setIfInBounds_toArray, List.set_cons_zero, List.set_cons_succ])
  refine wpAnyH_take (i := 13) (oi := ⟨some 40, _, _, _, _, _⟩) (v := ?_) rfl (by kernel_rfl) (by kernel_rfl) (by kernel_rfl) (fun _ _ _ h => h) (Or.inl ⟨by rfl, ?_⟩) (by assumption) ?_
  rotate_left
  · intro W hW; (try dsimp only at hW); go_simp <;> with_reducible rfl
  (try simp only [Act.put, List.setIfInBounds_toArray, List.set_cons_zero, List.set_cons_succ])
  refine wpAnyH_ready (rs := [11]) (by kernel_rfl) (by simp) ?_
  refine AllReadyH.cons (o := ⟨some 38, _, _, _, _, _⟩) rfl (fun K hK => ?_) AllReadyH.nil
  go_simp
  refine hK.out _ _ hHeld (fun hHeld => ?_)
  clear hK K
  (try simp only [Act.put, List.setIfInBounds_toArray, List.set_cons_zero, List.set_cons_succ])
  refine wpAnyH_ready (rs := [14]) (by kernel_rfl) (by simp) ?_
  refine AllReadyH.cons (o := ⟨some 41, _, _, _, _, _⟩) rfl (fun K hK => ?_) AllReadyH.nil
  go_simp
  go_at_call 84
  refine (begin_q w.heap.size _ _ _ [] _ (show OwnB w5.drew _ _ _ from HE.out.2.2.1) (by simp) hBs).mono ?_
  rintro e w6 ⟨A6, n6, cp6, T6, rfl, h6, t1, t2⟩
  have hE6 := h6.2.2.1 _ _ _ (show Blk w5.drew _ _ _ from HE.out.1) (by decide)
  have d0 := hE6.cell 0
  have d6 := hE6.cell 6
  have f0 := hE6.frozen 0
  simp at d0 d6
  have c6 := ((show Cf w5.drew cf g from HE.out.2.1).e h6.2.2.1.e).c15
  obtain ⟨q1, q2, q3, q4⟩ := ev_put (show Blk w5.drew _ _ _ from HE.out.1) hw0 h6
  have d7 := q1.cell 6
  simp at d7
  have c7 := (HE.out.2.1.e q3).c15
  have HQ := Lib.hid (And.intro q1 (And.intro q2 (And.intro (HE.out.2.1.e q3) (HE.out.2.2.2.drew.trans q4))))
  clear q1 q2 q3 q4 h6 hE6
  refine hK.out _ _ ⟨d6, c6⟩ (fun hHeld => ?_)
  clear hK K
  (try simp only [Act.put, List.setIfInBounds_toArray, List.set_cons_zero, List.set_cons_succ])
  refine wpAnyH_take (i := 15) (oi := ⟨some 42, _, _, _, _, _⟩) (v := ?_) rfl (by kernel_rfl) (by kernel_rfl) (by kernel_rfl) (fun _ _ _ h => h) (Or.inl ⟨by rfl, ?_⟩) (by assumption) ?_
  rotate_left
  · intro W hW; (try dsimp only at hW); go_simp <;> with_reducible rfl
  (try simp only [Act.put, List.setIfInBounds_toArray, List.set_cons_zero, List.set_cons_succ])
  refine wpAnyH_take (i := 16) (oi := ⟨some 43, _, _, _, _, _⟩) (v := ?_) rfl (by kernel_rfl) (by kernel_rfl) (by kernel_rfl) (fun _ _ _ h => h) (Or.inl ⟨by rfl, ?_⟩) (by assumption) ?_
  rotate_left
  · intro W hW; (try dsimp only at hW); go_simp <;> with_reducible rfl
  (try simp only [Act.put, List.setIfInBounds_toArray, List.set_cons_zero, List.set_cons_succ])
  refine wpAnyH_ready (rs := [17]) (by kernel_rfl) (by simp) ?_
  refine AllReadyH.cons (o := ⟨none, _, _, _, _, _⟩) rfl (fun K hK => ?_) AllReadyH.nil
  go_simp
  refine hK.out _ _ ⟨d7, c7⟩ (fun hHeld => ?_)
  clear hK K
  (try simp only [Act.put, List.setIfInBounds_toArray, List.set_cons_zero, List.set_cons_succ])
  refine wpAnyH_done (by kernel_rfl) ?_ _
  refine gen_exit (R := fun W => Blk W w0.heap.size 75 #[.slice A6 n6 cp6, .nilIface, .int .i8 0, .bool false, .slice none 0 0, .int .i64 0, .pointer (some ⟨cf, 0, none⟩)] ∧ OwnB W w.heap.size (.slice A6 n6 cp6) T6 ∧ Below w.heap.size w W) ⟨by simpa using HQ.out.1, HQ.out.2.1, HQ.out.2.2.2⟩ ?_
  rintro w7 ⟨r1, r2, r3⟩
  have d1 := r1.cell 1
  have d2 := r1.cell 2
  have d5 := r1.cell 5
  have g1 := r1.frozen 1
  have g2 := r1.frozen 2
  have g5 := r1.frozen 5
  simp at d1 d2 d5
  obtain ⟨q1, q2⟩ := new_done (w := w) (g := g) (l := l) (b := b) r1 r2 r3 hw0 t1
  have HZ := Lib.hid (And.intro q1 q2)
  clear q1 q2 r1 r2 r3 d0 d6 f0 c6 d7 c7 HQ hHeld
  go_wp2
  go_ret
  exact ⟨_, _, _, rfl, HZ.out.1, by simp at t2; omega, HZ.out.2⟩
/-- What Str and the message leave. -/
def EvRet (B ev cf b : Nat) (l : Int) (k : Nat) (w w' : World) : Prop := ∃ P n c A, EvS w' B ev cf b l (.slice P n c) A ∧ A.length ≤ k ∧ KpE w w' ∧ Below B w w'
theorem evs_put {w w1 w2 : World} {B ev cf b n c : Nat} {l : Int} {v : Value} {P : Option Addr} {A T T1 : List UInt8} {v1 : Value} (h : EvS w B ev cf b l v A) (h1 : App B w T1 v1 w1) (h2 : App B w1 T (.slice P n c) w2) (hT : 1 ≤ T.length) : EvS (w2.setCell ⟨ev, 0, none⟩ (.slice P n c)) B ev cf b l (.slice P n c) T ∧ KpE w (w2.setCell ⟨ev, 0, none⟩ (.slice P n c)) ∧ Below B w (w2.setCell ⟨ev, 0, none⟩ (.slice P n c)) := by
  have hE1 := h1.2.2.1 _ _ _ h.1 (by decide)
  obtain ⟨q1, q2, q3, q4⟩ := ev_put hE1 h.2.2.1 h2
  exact ⟨⟨by simpa using q1, q2, h.2.2.1, hT⟩, h1.2.2.1.e.trans q3, h1.2.1.trans q4⟩
set_option maxRecDepth 100000 in
set_option maxHeartbeats 1000000 in
theorem str_any (B ev cf b n c : Nat) (g l : Int) (P : Option Addr) (A : List UInt8) (key val : ByteArray) (w : World) (h : EvS w B ev cf b l (.slice P n c) A) (hc : Cf w cf g) (hl : A.length ≤ 500) (hB : B ≤ w.heap.size) (hk : Plain key) (hv : Plain val) (hks : key.size ≤ 20) (hvs : val.size ≤ 20) :
    Calls Tryz.prog 25 #[.pointer (some ⟨ev, 0, none⟩), .string key, .string val] w fun e w' => e = .returned (.pointer (some ⟨ev, 0, none⟩)) ∧ EvRet B ev cf b l (A.length + 60) w w' := by
  have hm1 := method_key
  have hm2 := method_string
  have e0 := h.1.cell 0
  have e6 := h.1.cell 6
  simp at e0 e6
  have c15 := hc.c15
  have H := Lib.hid (And.intro h (And.intro hc (And.intro hk hv)))
  clear h hc hk hv
  go_enter Tryz.func25, Tryz.ntmps25
  go_wp2
  refine wp_region_held_drew (S := fun W => W.cell? ⟨ev, 6, none⟩ = some (.pointer (some ⟨cf, 0, none⟩)) ∧ W.cell? ⟨cf, 15, none⟩ = some (.iface 56 (.agg #[]))) (by kernel_rfl) ?_ (fun hHeld => ?_)
  · exact ⟨e6, c15⟩
  refine wpAnyH_take (i := 0) (oi := ⟨some 10, _, _, _, _, _⟩) (v := ?_) rfl (by kernel_rfl) (by kernel_rfl) (by kernel_rfl) (fun _ _ _ h => h) (Or.inl ⟨by rfl, ?_⟩) (by assumption) ?_
  rotate_left
  · intro W hW; (try dsimp only at hW); go_simp <;> with_reducible rfl
  (try simp only [Act.put, List.setIfInBounds_toArray, List.set_cons_zero, List.set_cons_succ])
  refine wpAnyH_take (i := 1) (oi := ⟨some 11, _, _, _, _, _⟩) (v := ?_) rfl (by kernel_rfl) (by kernel_rfl) (by kernel_rfl) (fun _ _ _ h => h) (Or.inl ⟨by rfl, ?_⟩) (by assumption) ?_
  rotate_left
  · intro W hW; (try dsimp only at hW); go_simp <;> with_reducible rfl
  (try simp only [Act.put, List.setIfInBounds_toArray, List.set_cons_zero, List.set_cons_succ])
  refine wpAnyH_take (i := 2) (oi := ⟨some 12, _, _, _, _, _⟩) (v := ?_) rfl (by kernel_rfl) (by kernel_rfl) (by kernel_rfl) (fun _ _ _ h => h) (Or.inl ⟨by rfl, ?_⟩) (by assumption) ?_
  rotate_left
  · intro W hW; (try dsimp only at hW); go_simp <;> with_reducible rfl
  (try simp only [Act.put, List.setIfInBounds_toArray, List.set_cons_zero, List.set_cons_succ])
  refine wpAnyH_take (i := 3) (oi := ⟨some 13, _, _, _, _, _⟩) (v := ?_) rfl (by kernel_rfl) (by kernel_rfl) (by kernel_rfl) (fun _ _ _ h => h) (Or.inl ⟨by rfl, ?_⟩) (by assumption) ?_
  rotate_left
  · intro W hW; (try dsimp only at hW); go_simp <;> with_reducible rfl
  (try simp only [Act.put, List.setIfInBounds_toArray, List.set_cons_zero, List.set_cons_succ])
  refine wpAnyH_take (i := 4) (oi := ⟨some 14, _, _, _, _, _⟩) (v := ?_) rfl (by kernel_rfl) (by kernel_rfl) (by kernel_rfl) (fun _ _ _ h => h) (Or.inl ⟨by rfl, ?_⟩) (by assumption) ?_
  rotate_left
  · intro W hW; (try dsimp only at hW); go_simp <;> with_reducible rfl
  (try simp only [Act.put, List.setIfInBounds_toArray, List.set_cons_zero, List.set_cons_succ])
  refine wpAnyH_take (i := 5) (oi := ⟨some 15, _, _, _, _, _⟩) (v := ?_) rfl (by kernel_rfl) (by kernel_rfl) (by kernel_rfl) (fun _ _ _ h => h) (Or.inl ⟨by rfl, ?_⟩) (by assumption) ?_
  rotate_left
  · intro W hW; (try dsimp only at hW); go_simp <;> with_reducible rfl
  (try simp only [Act.put, List.setIfInBounds_toArray, List.set_cons_zero, List.set_cons_succ])
  refine wpAnyH_take (i := 6) (oi := ⟨some 16, _, _, _, _, _⟩) (v := ?_) rfl (by kernel_rfl) (by kernel_rfl) (by kernel_rfl) (fun _ _ _ h => h) (Or.inl ⟨by rfl, ?_⟩) (by assumption) ?_
  rotate_left
  · intro W hW; (try dsimp only at hW); go_simp <;> with_reducible rfl
  (try simp only [Act.put, List.setIfInBounds_toArray, List.set_cons_zero, List.set_cons_succ])
  refine wpAnyH_take (i := 7) (oi := ⟨some 17, _, _, _, _, _⟩) (v := ?_) rfl (by kernel_rfl) (by kernel_rfl) (by kernel_rfl) (fun _ _ _ h => h) (Or.inl ⟨by rfl, ?_⟩) (by assumption) ?_
  rotate_left
  · intro W hW; (try dsimp only at hW); go_simp <;> with_reducible rfl
  (try simp only [Act.put, List.setIfInBounds_toArray, List.set_cons_zero, List.set_cons_succ])
  refine wpAnyH_take (i := 8) (oi := ⟨some 18, _, _, _, _, _⟩) (v := ?_) rfl (by kernel_rfl) (by kernel_rfl) (by kernel_rfl) (fun _ _ _ h => h) (Or.inl ⟨by rfl, ?_⟩) (by assumption) ?_
  rotate_left
  · intro W hW; (try dsimp only at hW); go_simp <;> with_reducible rfl
  (try simp only [Act.put, List.setIfInBounds_toArray, List.set_cons_zero, List.set_cons_succ])
  refine wpAnyH_take (i := 9) (oi := ⟨some 19, _, _, _, _, _⟩) (v := ?_) rfl (by kernel_rfl) (by kernel_rfl) (by kernel_rfl) (fun _ _ _ h => h) (Or.inl ⟨by rfl, ?_⟩) (by assumption) ?_
  rotate_left
  · intro W hW; (try dsimp only at hW); go_simp <;> with_reducible rfl
  (try simp only [Act.put, List.setIfInBounds_toArray, List.set_cons_zero, List.set_cons_succ])
  refine wpAnyH_take (i := 10) (oi := ⟨some 20, _, _, _, _, _⟩) (v := ?_) rfl (by kernel_rfl) (by kernel_rfl) (by kernel_rfl) (fun _ _ _ h => h) (Or.inl ⟨by rfl, ?_⟩) (by assumption) ?_
  rotate_left
  · intro W hW; (try dsimp only at hW); go_simp <;> with_reducible rfl
  (try simp only [Act.put, List.setIfInBounds_toArray, List.set_cons_zero, List.set_cons_succ])
  refine wpAnyH_take (i := 11) (oi := ⟨some 21, _, _, _, _, _⟩) (v := ?_) rfl (by kernel_rfl) (by kernel_rfl) (by kernel_rfl) (fun _ _ _ h => h) (Or.inl ⟨by rfl, ?_⟩) (by assumption) ?_
  rotate_left
  · intro W hW; (try dsimp only at hW); go_simp <;> with_reducible rfl
  (try simp only [Act.put, List.setIfInBounds_toArray, List.set_cons_zero, List.set_cons_succ])
  refine wpAnyH_take (i := 12) (oi := ⟨some 22, _, _, _, _, _⟩) (v := ?_) rfl (by kernel_rfl) (by kernel_rfl) (by kernel_rfl) (fun _ _ _ h => h) (Or.inl ⟨by rfl, ?_⟩) (by assumption) ?_
  rotate_left
  · intro W hW; (try dsimp only at hW); go_simp <;> with_reducible rfl
  (try simp only [Act.put, List.setIfInBounds_toArray, List.set_cons_zero, List.set_cons_succ])
  refine wpAnyH_take (i := 13) (oi := ⟨some 23, _, _, _, _, _⟩) (v := ?_) rfl (by kernel_rfl) (by kernel_rfl) (by kernel_rfl) (fun _ _ _ h => h) (Or.inl ⟨by rfl, ?_⟩) (by assumption) ?_
  rotate_left
  · intro W hW; (try dsimp only at hW); go_simp <;> with_reducible rfl
  (try simp only [Act.put, List.setIfInBounds_toArray, List.set_cons_zero, List.set_cons_succ])
  refine wpAnyH_take (i := 14) (oi := ⟨some 24, _, _, _, _, _⟩) (v := ?_) rfl (by kernel_rfl) (by kernel_rfl) (by kernel_rfl) (fun _ _ _ h => h) (Or.inl ⟨by rfl, ?_⟩) (by assumption) ?_
  rotate_left
  · intro W hW; (try dsimp only at hW); go_simp <;> with_reducible rfl
  (try simp only [Act.put, List.setIfInBounds_toArray, List.set_cons_zero, List.set_cons_succ])
  refine wpAnyH_take (i := 15) (oi := ⟨some 25, _, _, _, _, _⟩) (v := ?_) rfl (by kernel_rfl) (by kernel_rfl) (by kernel_rfl) (fun _ _ _ h => h) (Or.inl ⟨by rfl, ?_⟩) (by assumption) ?_
  rotate_left
  · intro W hW; (try dsimp only at hW); go_simp <;> with_reducible rfl
  (try simp only [Act.put, List.setIfInBounds_toArray, List.set_cons_zero, List.set_cons_succ])
  refine wpAnyH_take (i := 16) (oi := ⟨some 26, _, _, _, _, _⟩) (v := ?_) rfl (by kernel_rfl) (by kernel_rfl) (by kernel_rfl) (fun _ _ _ h => h) (Or.inl ⟨by rfl, ?_⟩) (by assumption) ?_
  rotate_left
  · intro W hW; (try dsimp only at hW); go_simp <;> with_reducible rfl
  (try simp only [Act.put, List.setIfInBounds_toArray, List.set_cons_zero, List.set_cons_succ])
  refine wpAnyH_take (i := 17) (oi := ⟨some 27, _, _, _, _, _⟩) (v := ?_) rfl (by kernel_rfl) (by kernel_rfl) (by kernel_rfl) (fun _ _ _ h => h) (Or.inl ⟨by rfl, ?_⟩) (by assumption) ?_
  rotate_left
  · intro W hW; (try dsimp only at hW); go_simp <;> with_reducible rfl
  (try simp only [Act.put, List.setIfInBounds_toArray, List.set_cons_zero, List.set_cons_succ])
  refine wpAnyH_take (i := 19) (oi := ⟨some 29, _, _, _, _, _⟩) (v := ?_) rfl (by kernel_rfl) (by kernel_rfl) (by kernel_rfl) (fun _ _ _ h => h) (Or.inl ⟨by rfl, ?_⟩) (by assumption) ?_
  rotate_left
  · intro W hW; (try dsimp only at hW); go_simp <;> with_reducible rfl
  (try simp only [Act.put, List.setIfInBounds_toArray, List.set_cons_zero, List.set_cons_succ])
  refine wpAnyH_take (i := 20) (oi := ⟨some 30, _, _, _, _, _⟩) (v := ?_) rfl (by kernel_rfl) (by kernel_rfl) (by kernel_rfl) (fun _ _ _ h => h) (Or.inl ⟨by rfl, ?_⟩) (by assumption) ?_
  rotate_left
  · intro W hW; (try dsimp only at hW); go_simp <;> with_reducible rfl
  (try simp only [Act.put, List.setIfInBounds_toArray, List.set_cons_zero, List.set_cons_succ])
  refine wpAnyH_take (i := 21) (oi := ⟨some 31, _, _, _, _, _⟩) (v := ?_) rfl (by kernel_rfl) (by kernel_rfl) (by kernel_rfl) (fun _ _ _ h => h) (Or.inl ⟨by rfl, ?_⟩) (by assumption) ?_
  rotate_left
  · intro W hW; (try dsimp only at hW); go_simp <;> with_reducible rfl
  (try simp only [Act.put, List.setIfInBounds_toArray, List.set_cons_zero, List.set_cons_succ])
  refine wpAnyH_take (i := 23) (oi := ⟨some 33, _, _, _, _, _⟩) (v := ?_) rfl (by kernel_rfl) (by kernel_rfl) (by kernel_rfl) (fun _ _ _ h => h) (Or.inl ⟨by rfl, ?_⟩) (by assumption) ?_
  rotate_left
  · intro W hW; (try dsimp only at hW); go_simp <;> with_reducible rfl
  (try simp only [Act.put, List.setIfInBounds_toArray, List.set_cons_zero, List.set_cons_succ])
  refine wpAnyH_take (i := 24) (oi := ⟨some 34, _, _, _, _, _⟩) (v := ?_) rfl (by kernel_rfl) (by kernel_rfl) (by kernel_rfl) (fun _ _ _ h => h) (Or.inl ⟨by rfl, ?_⟩) (by assumption) ?_
  rotate_left
  · intro W hW; (try dsimp only at hW); go_simp <;> with_reducible rfl
  (try simp only [Act.put, List.setIfInBounds_toArray, List.set_cons_zero, List.set_cons_succ])
  refine wpAnyH_take (i := 25) (oi := ⟨some 35, _, _, _, _, _⟩) (v := ?_) rfl (by kernel_rfl) (by kernel_rfl) (by kernel_rfl) (fun _ _ _ h => h) (Or.inl ⟨by rfl, ?_⟩) (by assumption) ?_
  rotate_left
  · intro W hW; (try dsimp only at hW); go_simp <;> with_reducible rfl
  (try simp only [Act.put, List.setIfInBounds_toArray, List.set_cons_zero, List.set_cons_succ])
  refine wpAnyH_ready (rs := [18]) (by kernel_rfl) (by simp) ?_
  refine AllReadyH.cons (o := ⟨some 28, _, _, _, _, _⟩) rfl (fun K hK => ?_) AllReadyH.nil
  go_simp
  refine hK.out _ _ hHeld (fun hHeld => ?_)
  clear hK K
  (try simp only [Act.put, List.setIfInBounds_toArray, List.set_cons_zero, List.set_cons_succ])
  refine wpAnyH_ready (rs := [22]) (by kernel_rfl) (by simp) ?_
  refine AllReadyH.cons (o := ⟨some 32, _, _, _, _, _⟩) rfl (fun K hK => ?_) AllReadyH.nil
  go_simp
  go_at_call 110
  refine (key_q B _ _ _ A key _ (show OwnB w.drew _ _ _ from H.out.1.2.1) H.out.1.2.2.2 (by omega) H.out.2.2.1 hks hB).mono ?_
  rintro e w6 ⟨A6, n6, cp6, T6, rfl, h6, t1, t2⟩
  have hE6 := h6.2.2.1 _ _ _ (show Blk w.drew _ _ _ from H.out.1.1) (by decide)
  have hC6 := (show Cf w.drew cf g from H.out.2.1).e h6.2.2.1.e
  have d6 := hE6.cell 6
  simp at d6
  have c6 := hC6.c15
  have hB6 : B ≤ w6.heap.size := Nat.le_trans hB h6.2.2.2
  have H6 := Lib.hid (And.intro h6 (And.intro hE6 hC6))
  clear h6 hE6 hC6
  refine hK.out _ _ ⟨d6, c6⟩ (fun hHeld => ?_)
  clear hK K
  (try simp only [Act.put, List.setIfInBounds_toArray, List.set_cons_zero, List.set_cons_succ])
  refine wpAnyH_ready (rs := [26]) (by kernel_rfl) (by simp) ?_
  refine AllReadyH.cons (o := ⟨some 36, _, _, _, _, _⟩) rfl (fun K hK => ?_) AllReadyH.nil
  go_simp
  go_at_call 115
  refine (string_q B _ _ _ T6 val _ H6.out.1.1 (by omega) H.out.2.2.2 hvs hB6).mono ?_
  rintro e w8 ⟨A8, n8, cp8, T8, rfl, h8, u1, u2⟩
  have hE8 := h8.2.2.1 _ _ _ H6.out.2.1 (by decide)
  have hC8 := H6.out.2.2.e h8.2.2.1.e
  have i0 := hE8.cell 0
  have i6 := hE8.cell 6
  have f0 := hE8.frozen 0
  simp at i0 i6
  have c8 := hC8.c15
  obtain ⟨q1, q2, q3⟩ := evs_put (show EvS w.drew B ev cf b l (.slice P n c) A from H.out.1) H6.out.1 h8 u1
  have j6 := q1.1.cell 6
  simp at j6
  have k15 := (H.out.2.1.e q2).c15
  have HQ := Lib.hid (And.intro q1 (And.intro q2 q3))
  clear q1 q2 q3 h8 hE8 hC8
  refine hK.out _ _ ⟨i6, c8⟩ (fun hHeld => ?_)
  clear hK K
  (try simp only [Act.put, List.setIfInBounds_toArray, List.set_cons_zero, List.set_cons_succ])
  refine wpAnyH_take (i := 27) (oi := ⟨some 37, _, _, _, _, _⟩) (v := ?_) rfl (by kernel_rfl) (by kernel_rfl) (by kernel_rfl) (fun _ _ _ h => h) (Or.inl ⟨by rfl, ?_⟩) (by assumption) ?_
  rotate_left
  · intro W hW; (try dsimp only at hW); go_simp <;> with_reducible rfl
  (try simp only [Act.put, List.setIfInBounds_toArray, List.set_cons_zero, List.set_cons_succ])
  refine wpAnyH_take (i := 28) (oi := ⟨some 38, _, _, _, _, _⟩) (v := ?_) rfl (by kernel_rfl) (by kernel_rfl) (by kernel_rfl) (fun _ _ _ h => h) (Or.inl ⟨by rfl, ?_⟩) (by assumption) ?_
  rotate_left
  · intro W hW; (try dsimp only at hW); go_simp <;> with_reducible rfl
  (try simp only [Act.put, List.setIfInBounds_toArray, List.set_cons_zero, List.set_cons_succ])
  refine wpAnyH_ready (rs := [29]) (by kernel_rfl) (by simp) ?_
  refine AllReadyH.cons (o := ⟨none, _, _, _, _, _⟩) rfl (fun K hK => ?_) AllReadyH.nil
  go_simp
  refine hK.out _ _ ⟨j6, k15⟩ (fun hHeld => ?_)
  clear hK K
  (try simp only [Act.put, List.setIfInBounds_toArray, List.set_cons_zero, List.set_cons_succ])
  refine wpAnyH_done (by kernel_rfl) ?_ _
  go_wp2
  go_ret
  exact ⟨rfl, _, _, _, _, HQ.out.1, by omega, (show KpE w _ from fun g T cs hb => HQ.out.2.1 g T cs hb), ((Below.refl B w).drew).trans HQ.out.2.2⟩
set_option maxRecDepth 100000 in
set_option maxHeartbeats 1000000 in
theorem put_event (v : Value) (w : World) : Calls Tryz.prog 32 #[v] w fun e w' => e = .returned (.tuple #[]) ∧ w = w' := by
  go_enter Tryz.func32, Tryz.ntmps32
  go_wp2
  exact bodyPost_end (results_none rfl _ _ _) rfl ⟨rfl, rfl⟩
theorem Sink.kpe {w w' : World} {B b : Nat} (h : Sink w B b (.slice none 0 0) []) (k : KpE w w') : Sink w' B b (.slice none 0 0) [] := ⟨k _ _ _ h.1 (by decide) (by decide), World.ownsRow_nil _ _ _ _, h.2.2⟩
/-- What a write leaves. -/
def WrRet (Bs b : Nat) (w w' : World) : Prop := First b w' ∧ Below Bs w w'
set_option maxRecDepth 100000 in
set_option maxHeartbeats 1000000 in
theorem write_any (Bs B ev cf b n c : Nat) (g l : Int) (P : Option Addr) (A : List UInt8) (w : World) (h : EvS w B ev cf b l (.slice P n c) A) (hc : Cf w cf g) (hs : Sink w Bs b (.slice none 0 0) []) (hl : A.length ≤ 700) (hB : B ≤ w.heap.size) (hBs : Bs ≤ B) (hl7 : (l != 7) = true) :
    Calls Tryz.prog 26 #[.pointer (some ⟨ev, 0, none⟩)] w fun e w' => e = .returned .nilIface ∧ WrRet Bs b w w' := by
  have hm1 := method_end
  have hm2 := method_break
  have hm3 := method_adapter b
  have e0 := h.1.cell 0
  have e2 := h.1.cell 2
  have e6 := h.1.cell 6
  simp at e0 e2 e6
  have c15 := hc.c15
  have H := Lib.hid (And.intro h (And.intro hc hs))
  clear h hc hs
  go_enter Tryz.func26, Tryz.ntmps26
  go_wp2
  refine wp_region_held_drew (S := fun W => W.cell? ⟨ev, 6, none⟩ = some (.pointer (some ⟨cf, 0, none⟩)) ∧ W.cell? ⟨cf, 15, none⟩ = some (.iface 56 (.agg #[]))) (by kernel_rfl) ?_ (fun hHeld => ?_)
  · exact ⟨e6, c15⟩
  refine wpAnyH_take (i := 0) (oi := ⟨some 10, _, _, _, _, _⟩) (v := ?_) rfl (by kernel_rfl) (by kernel_rfl) (by kernel_rfl) (fun _ _ _ h => h) (Or.inl ⟨by rfl, ?_⟩) (by assumption) ?_
  rotate_left
  · intro W hW; (try dsimp only at hW); go_simp <;> with_reducible rfl
  (try simp only [Act.put, List.setIfInBounds_toArray, List.set_cons_zero, List.set_cons_succ])
  refine wpAnyH_take (i := 1) (oi := ⟨some 11, _, _, _, _, _⟩) (v := ?_) rfl (by kernel_rfl) (by kernel_rfl) (by kernel_rfl) (fun _ _ _ h => h) (Or.inl ⟨by rfl, ?_⟩) (by assumption) ?_
  rotate_left
  · intro W hW; (try dsimp only at hW); go_simp <;> with_reducible rfl
  (try simp only [Act.put, List.setIfInBounds_toArray, List.set_cons_zero, List.set_cons_succ])
  refine wpAnyH_take (i := 2) (oi := ⟨some 12, _, _, _, _, _⟩) (v := ?_) rfl (by kernel_rfl) (by kernel_rfl) (by kernel_rfl) (fun _ _ _ h => h) (Or.inl ⟨by rfl, ?_⟩) (by assumption) ?_
  rotate_left
  · intro W hW; (try dsimp only at hW); go_simp <;> with_reducible rfl
  (try simp only [Act.put, List.setIfInBounds_toArray, List.set_cons_zero, List.set_cons_succ])
  refine wpAnyH_take (i := 3) (oi := ⟨some 13, _, _, _, _, _⟩) (v := ?_) rfl (by kernel_rfl) (by kernel_rfl) (by kernel_rfl) (fun _ _ _ h => h) (Or.inl ⟨by rfl, ?_⟩) (by assumption) ?_
  rotate_left
  · intro W hW; (try dsimp only at hW); go_simp <;> with_reducible rfl
  (try simp only [Act.put, List.setIfInBounds_toArray, List.set_cons_zero, List.set_cons_succ])
  refine wpAnyH_take (i := 4) (oi := ⟨some 14, _, _, _, _, _⟩) (v := ?_) rfl (by kernel_rfl) (by kernel_rfl) (by kernel_rfl) (fun _ _ _ h => h) (Or.inl ⟨by rfl, ?_⟩) (by assumption) ?_
  rotate_left
  · intro W hW; (try dsimp only at hW); go_simp <;> with_reducible rfl
  (try simp only [Act.put, List.setIfInBounds_toArray, List.set_cons_zero, List.set_cons_succ])
  refine wpAnyH_take (i := 5) (oi := ⟨some 15, _, _, _, _, _⟩) (v := ?_) rfl (by kernel_rfl) (by kernel_rfl) (by kernel_rfl) (fun _ _ _ h => h) (Or.inl ⟨by rfl, ?_⟩) (by assumption) ?_
  rotate_left
  · intro W hW; (try dsimp only at hW); go_simp <;> with_reducible rfl
  (try simp only [Act.put, List.setIfInBounds_toArray, List.set_cons_zero, List.set_cons_succ])
  refine wpAnyH_take (i := 6) (oi := ⟨some 16, _, _, _, _, _⟩) (v := ?_) rfl (by kernel_rfl) (by kernel_rfl) (by kernel_rfl) (fun _ _ _ h => h) (Or.inl ⟨by rfl, ?_⟩) (by assumption) ?_
  rotate_left
  · intro W hW; (try dsimp only at hW); go_simp <;> with_reducible rfl
  (try simp only [Act.put, List.setIfInBounds_toArray, List.set_cons_zero, List.set_cons_succ])
  refine wpAnyH_take (i := 7) (oi := ⟨some 17, _, _, _, _, _⟩) (v := ?_) rfl (by kernel_rfl) (by kernel_rfl) (by kernel_rfl) (fun _ _ _ h => h) (Or.inl ⟨by rfl, ?_⟩) (by assumption) ?_
  rotate_left
  · intro W hW; (try dsimp only at hW); go_simp <;> with_reducible rfl
  (try simp only [Act.put, List.setIfInBounds_toArray, List.set_cons_zero, List.set_cons_succ])
  refine wpAnyH_take (i := 8) (oi := ⟨some 18, _, _, _, _, _⟩) (v := ?_) rfl (by kernel_rfl) (by kernel_rfl) (by kernel_rfl) (fun _ _ _ h => h) (Or.inl ⟨by rfl, ?_⟩) (by assumption) ?_
  rotate_left
  · intro W hW; (try dsimp only at hW); go_simp <;> with_reducible rfl
  (try simp only [Act.put, List.setIfInBounds_toArray, List.set_cons_zero, List.set_cons_succ])
  refine wpAnyH_take (i := 9) (oi := ⟨some 19, _, _, _, _, _⟩) (v := ?_) rfl (by kernel_rfl) (by kernel_rfl) (by kernel_rfl) (fun _ _ _ h => h) (Or.inl ⟨by rfl, ?_⟩) (by assumption) ?_
  rotate_left
  · intro W hW; (try dsimp only at hW); go_simp <;> with_reducible rfl
  (try simp only [Act.put, List.setIfInBounds_toArray, List.set_cons_zero, List.set_cons_succ])
  refine wpAnyH_take (i := 10) (oi := ⟨some 20, _, _, _, _, _⟩) (v := ?_) rfl (by kernel_rfl) (by kernel_rfl) (by kernel_rfl) (fun _ _ _ h => h) (Or.inl ⟨by rfl, ?_⟩) (by assumption) ?_
  rotate_left
  · intro W hW; (try dsimp only at hW); go_simp <;> with_reducible rfl
  (try simp only [Act.put, List.setIfInBounds_toArray, List.set_cons_zero, List.set_cons_succ])
  refine wpAnyH_take (i := 12) (oi := ⟨some 22, _, _, _, _, _⟩) (v := ?_) rfl (by kernel_rfl) (by kernel_rfl) (by kernel_rfl) (fun _ _ _ h => h) (Or.inl ⟨by rfl, ?_⟩) (by assumption) ?_
  rotate_left
  · intro W hW; (try dsimp only at hW); go_simp <;> with_reducible rfl
  (try simp only [Act.put, List.setIfInBounds_toArray, List.set_cons_zero, List.set_cons_succ])
  refine wpAnyH_take (i := 13) (oi := ⟨some 23, _, _, _, _, _⟩) (v := ?_) rfl (by kernel_rfl) (by kernel_rfl) (by kernel_rfl) (fun _ _ _ h => h) (Or.inl ⟨by rfl, ?_⟩) (by assumption) ?_
  rotate_left
  · intro W hW; (try dsimp only at hW); go_simp <;> with_reducible rfl
  (try simp only [Act.put, List.setIfInBounds_toArray, List.set_cons_zero, List.set_cons_succ])
  refine wpAnyH_ready (rs := [11]) (by kernel_rfl) (by simp) ?_
  refine AllReadyH.cons (o := ⟨some 21, _, _, _, _, _⟩) rfl (fun K hK => ?_) AllReadyH.nil
  go_simp
  refine hK.out _ _ hHeld (fun hHeld => ?_)
  clear hK K
  (try simp only [Act.put, List.setIfInBounds_toArray, List.set_cons_zero, List.set_cons_succ])
  refine wpAnyH_ready (rs := [14]) (by kernel_rfl) (by simp) ?_
  refine AllReadyH.cons (o := ⟨some 24, _, _, _, _, _⟩) rfl (fun K hK => ?_) AllReadyH.nil
  go_simp
  go_at_call 90
  refine (end_q B _ _ _ A _ (show OwnB w.drew _ _ _ from H.out.1.2.1) (by omega) hB).mono ?_
  rintro e w6 ⟨A6, n6, cp6, T6, rfl, h6, t1, t2⟩
  have hE6 := h6.2.2.1 _ _ _ (show Blk w.drew _ _ _ from H.out.1.1) (by decide)
  have d0 := hE6.cell 0
  have d6 := hE6.cell 6
  have f0 := hE6.frozen 0
  simp at d0 d6
  have c6 := ((show Cf w.drew cf g from H.out.2.1).e h6.2.2.1.e).c15
  obtain ⟨q1, q2, q3, q4⟩ := ev_put (show Blk w.drew _ _ _ from H.out.1.1) H.out.1.2.2.1 h6
  have d7 := q1.cell 6
  simp at d7
  have c7 := (H.out.2.1.e q3).c15
  have HQ := Lib.hid (And.intro q1 (And.intro q2 (And.intro q3 q4)))
  clear q1 q2 q3 q4 h6 hE6
  refine hK.out _ _ ⟨d6, c6⟩ (fun hHeld => ?_)
  clear hK K
  (try simp only [Act.put, List.setIfInBounds_toArray, List.set_cons_zero, List.set_cons_succ])
  refine wpAnyH_take (i := 15) (oi := ⟨some 25, _, _, _, _, _⟩) (v := ?_) rfl (by kernel_rfl) (by kernel_rfl) (by kernel_rfl) (fun _ _ _ h => h) (Or.inl ⟨by rfl, ?_⟩) (by assumption) ?_
  rotate_left
  · intro W hW; (try dsimp only at hW); go_simp <;> with_reducible rfl
  (try simp only [Act.put, List.setIfInBounds_toArray, List.set_cons_zero, List.set_cons_succ])
  refine wpAnyH_take (i := 16) (oi := ⟨some 26, _, _, _, _, _⟩) (v := ?_) rfl (by kernel_rfl) (by kernel_rfl) (by kernel_rfl) (fun _ _ _ h => h) (Or.inl ⟨by rfl, ?_⟩) (by assumption) ?_
  rotate_left
  · intro W hW; (try dsimp only at hW); go_simp <;> with_reducible rfl
  (try simp only [Act.put, List.setIfInBounds_toArray, List.set_cons_zero, List.set_cons_succ])
  refine wpAnyH_ready (rs := [17]) (by kernel_rfl) (by simp) ?_
  refine AllReadyH.cons (o := ⟨none, _, _, _, _, _⟩) rfl (fun K hK => ?_) AllReadyH.nil
  go_simp
  refine hK.out _ _ ⟨d7, c7⟩ (fun hHeld => ?_)
  clear hK K
  (try simp only [Act.put, List.setIfInBounds_toArray, List.set_cons_zero, List.set_cons_succ])
  refine wpAnyH_done (by kernel_rfl) ?_ _
  refine gen_exit (R := fun W => EvS W B ev cf b l (.slice A6 n6 cp6) T6 ∧ Cf W cf g ∧ Sink W Bs b (.slice none 0 0) [] ∧ Below Bs w W ∧ B ≤ W.heap.size) ⟨⟨by simpa using HQ.out.1, HQ.out.2.1, H.out.1.2.2.1, t1⟩, H.out.2.1.e HQ.out.2.2.1, H.out.2.2.kpe HQ.out.2.2.1, ((Below.refl Bs w).drew).trans (HQ.out.2.2.2.mono hBs), Nat.le_trans hB HQ.out.2.2.2.size⟩ ?_
  rintro w7 ⟨r1, r2, r3, r4, r5⟩
  clear HQ hHeld d0 d6 f0 c6 d7 c7 e0 e2 e6 c15
  have e0 := r1.1.cell 0
  have e6 := r1.1.cell 6
  simp at e0 e6
  have c15 := r2.c15
  have H7 := Lib.hid (And.intro r1 (And.intro r2 (And.intro r3 r4)))
  clear r1 r2 r3 r4
  go_wp2
  refine wp_region_held_drew (S := fun W => W.cell? ⟨ev, 6, none⟩ = some (.pointer (some ⟨cf, 0, none⟩)) ∧ W.cell? ⟨cf, 15, none⟩ = some (.iface 56 (.agg #[]))) (by kernel_rfl) ?_ (fun hHeld => ?_)
  · exact ⟨e6, c15⟩
  refine wpAnyH_take (i := 0) (oi := ⟨some 27, _, _, _, _, _⟩) (v := ?_) rfl (by kernel_rfl) (by kernel_rfl) (by kernel_rfl) (fun _ _ _ h => h) (Or.inl ⟨by rfl, ?_⟩) (by assumption) ?_
  rotate_left
  · intro W hW; (try dsimp only at hW); go_simp <;> with_reducible rfl
  (try simp only [Act.put, List.setIfInBounds_toArray, List.set_cons_zero, List.set_cons_succ])
  refine wpAnyH_take (i := 1) (oi := ⟨some 28, _, _, _, _, _⟩) (v := ?_) rfl (by kernel_rfl) (by kernel_rfl) (by kernel_rfl) (fun _ _ _ h => h) (Or.inl ⟨by rfl, ?_⟩) (by assumption) ?_
  rotate_left
  · intro W hW; (try dsimp only at hW); go_simp <;> with_reducible rfl
  (try simp only [Act.put, List.setIfInBounds_toArray, List.set_cons_zero, List.set_cons_succ])
  refine wpAnyH_take (i := 2) (oi := ⟨some 29, _, _, _, _, _⟩) (v := ?_) rfl (by kernel_rfl) (by kernel_rfl) (by kernel_rfl) (fun _ _ _ h => h) (Or.inl ⟨by rfl, ?_⟩) (by assumption) ?_
  rotate_left
  · intro W hW; (try dsimp only at hW); go_simp <;> with_reducible rfl
  (try simp only [Act.put, List.setIfInBounds_toArray, List.set_cons_zero, List.set_cons_succ])
  refine wpAnyH_take (i := 3) (oi := ⟨some 30, _, _, _, _, _⟩) (v := ?_) rfl (by kernel_rfl) (by kernel_rfl) (by kernel_rfl) (fun _ _ _ h => h) (Or.inl ⟨by rfl, ?_⟩) (by assumption) ?_
  rotate_left
  · intro W hW; (try dsimp only at hW); go_simp <;> with_reducible rfl
  (try simp only [Act.put, List.setIfInBounds_toArray, List.set_cons_zero, List.set_cons_succ])
  refine wpAnyH_take (i := 4) (oi := ⟨some 31, _, _, _, _, _⟩) (v := ?_) rfl (by kernel_rfl) (by kernel_rfl) (by kernel_rfl) (fun _ _ _ h => h) (Or.inl ⟨by rfl, ?_⟩) (by assumption) ?_
  rotate_left
  · intro W hW; (try dsimp only at hW); go_simp <;> with_reducible rfl
  (try simp only [Act.put, List.setIfInBounds_toArray, List.set_cons_zero, List.set_cons_succ])
  refine wpAnyH_take (i := 5) (oi := ⟨some 32, _, _, _, _, _⟩) (v := ?_) rfl (by kernel_rfl) (by kernel_rfl) (by kernel_rfl) (fun _ _ _ h => h) (Or.inl ⟨by rfl, ?_⟩) (by assumption) ?_
  rotate_left
  · intro W hW; (try dsimp only at hW); go_simp <;> with_reducible rfl
  (try simp only [Act.put, List.setIfInBounds_toArray, List.set_cons_zero, List.set_cons_succ])
  refine wpAnyH_take (i := 6) (oi := ⟨some 33, _, _, _, _, _⟩) (v := ?_) rfl (by kernel_rfl) (by kernel_rfl) (by kernel_rfl) (fun _ _ _ h => h) (Or.inl ⟨by rfl, ?_⟩) (by assumption) ?_
  rotate_left
  · intro W hW; (try dsimp only at hW); go_simp <;> with_reducible rfl
  (try simp only [Act.put, List.setIfInBounds_toArray, List.set_cons_zero, List.set_cons_succ])
  refine wpAnyH_take (i := 7) (oi := ⟨some 34, _, _, _, _, _⟩) (v := ?_) rfl (by kernel_rfl) (by kernel_rfl) (by kernel_rfl) (fun _ _ _ h => h) (Or.inl ⟨by rfl, ?_⟩) (by assumption) ?_
  rotate_left
  · intro W hW; (try dsimp only at hW); go_simp <;> with_reducible rfl
  (try simp only [Act.put, List.setIfInBounds_toArray, List.set_cons_zero, List.set_cons_succ])
  refine wpAnyH_take (i := 8) (oi := ⟨some 35, _, _, _, _, _⟩) (v := ?_) rfl (by kernel_rfl) (by kernel_rfl) (by kernel_rfl) (fun _ _ _ h => h) (Or.inl ⟨by rfl, ?_⟩) (by assumption) ?_
  rotate_left
  · intro W hW; (try dsimp only at hW); go_simp <;> with_reducible rfl
  (try simp only [Act.put, List.setIfInBounds_toArray, List.set_cons_zero, List.set_cons_succ])
  refine wpAnyH_take (i := 9) (oi := ⟨some 36, _, _, _, _, _⟩) (v := ?_) rfl (by kernel_rfl) (by kernel_rfl) (by kernel_rfl) (fun _ _ _ h => h) (Or.inl ⟨by rfl, ?_⟩) (by assumption) ?_
  rotate_left
  · intro W hW; (try dsimp only at hW); go_simp <;> with_reducible rfl
  (try simp only [Act.put, List.setIfInBounds_toArray, List.set_cons_zero, List.set_cons_succ])
  refine wpAnyH_take (i := 10) (oi := ⟨some 37, _, _, _, _, _⟩) (v := ?_) rfl (by kernel_rfl) (by kernel_rfl) (by kernel_rfl) (fun _ _ _ h => h) (Or.inl ⟨by rfl, ?_⟩) (by assumption) ?_
  rotate_left
  · intro W hW; (try dsimp only at hW); go_simp <;> with_reducible rfl
  (try simp only [Act.put, List.setIfInBounds_toArray, List.set_cons_zero, List.set_cons_succ])
  refine wpAnyH_take (i := 12) (oi := ⟨some 39, _, _, _, _, _⟩) (v := ?_) rfl (by kernel_rfl) (by kernel_rfl) (by kernel_rfl) (fun _ _ _ h => h) (Or.inl ⟨by rfl, ?_⟩) (by assumption) ?_
  rotate_left
  · intro W hW; (try dsimp only at hW); go_simp <;> with_reducible rfl
  (try simp only [Act.put, List.setIfInBounds_toArray, List.set_cons_zero, List.set_cons_succ])
  refine wpAnyH_take (i := 13) (oi := ⟨some 40, _, _, _, _, _⟩) (v := ?_) rfl (by kernel_rfl) (by kernel_rfl) (by kernel_rfl) (fun _ _ _ h => h) (Or.inl ⟨by rfl, ?_⟩) (by assumption) ?_
  rotate_left
  · intro W hW; (try dsimp only at hW); go_simp <;> with_reducible rfl
  (try simp only [Act.put, List.setIfInBounds_toArray, List.set_cons_zero, List.set_cons_succ])
  refine wpAnyH_ready (rs := [11]) (by kernel_rfl) (by simp) ?_
  refine AllReadyH.cons (o := ⟨some 38, _, _, _, _, _⟩) rfl (fun K hK => ?_) AllReadyH.nil
  go_simp
  refine hK.out _ _ hHeld (fun hHeld => ?_)
  clear hK K
  (try simp only [Act.put, List.setIfInBounds_toArray, List.set_cons_zero, List.set_cons_succ])
  refine wpAnyH_ready (rs := [14]) (by kernel_rfl) (by simp) ?_
  refine AllReadyH.cons (o := ⟨some 41, _, _, _, _, _⟩) rfl (fun K hK => ?_) AllReadyH.nil
  go_simp
  go_at_call 111
  refine (break_q B _ _ _ T6 _ (show OwnB w7.drew _ _ _ from H7.out.1.2.1) (by omega) r5).mono ?_
  rintro e w8 ⟨A8, n8, cp8, T8, rfl, h8, u1, u2⟩
  have hE8 := h8.2.2.1 _ _ _ (show Blk w7.drew _ _ _ from H7.out.1.1) (by decide)
  have d0 := hE8.cell 0
  have d6 := hE8.cell 6
  have f0 := hE8.frozen 0
  simp at d0 d6
  have c6 := ((show Cf w7.drew cf g from H7.out.2.1).e h8.2.2.1.e).c15
  obtain ⟨q1, q2, q3, q4⟩ := ev_put (show Blk w7.drew _ _ _ from H7.out.1.1) H7.out.1.2.2.1 h8
  have d7 := q1.cell 6
  simp at d7
  have c7 := (H7.out.2.1.e q3).c15
  have HQ := Lib.hid (And.intro q1 (And.intro q2 (And.intro q3 q4)))
  clear q1 q2 q3 q4 h8 hE8
  refine hK.out _ _ ⟨d6, c6⟩ (fun hHeld => ?_)
  clear hK K
  (try simp only [Act.put, List.setIfInBounds_toArray, List.set_cons_zero, List.set_cons_succ])
  refine wpAnyH_take (i := 15) (oi := ⟨some 42, _, _, _, _, _⟩) (v := ?_) rfl (by kernel_rfl) (by kernel_rfl) (by kernel_rfl) (fun _ _ _ h => h) (Or.inl ⟨by rfl, ?_⟩) (by assumption) ?_
  rotate_left
  · intro W hW; (try dsimp only at hW); go_simp <;> with_reducible rfl
  (try simp only [Act.put, List.setIfInBounds_toArray, List.set_cons_zero, List.set_cons_succ])
  refine wpAnyH_take (i := 16) (oi := ⟨some 43, _, _, _, _, _⟩) (v := ?_) rfl (by kernel_rfl) (by kernel_rfl) (by kernel_rfl) (fun _ _ _ h => h) (Or.inl ⟨by rfl, ?_⟩) (by assumption) ?_
  rotate_left
  · intro W hW; (try dsimp only at hW); go_simp <;> with_reducible rfl
  (try simp only [Act.put, List.setIfInBounds_toArray, List.set_cons_zero, List.set_cons_succ])
  refine wpAnyH_ready (rs := [17]) (by kernel_rfl) (by simp) ?_
  refine AllReadyH.cons (o := ⟨none, _, _, _, _, _⟩) rfl (fun K hK => ?_) AllReadyH.nil
  go_simp
  refine hK.out _ _ ⟨d7, c7⟩ (fun hHeld => ?_)
  clear hK K
  (try simp only [Act.put, List.setIfInBounds_toArray, List.set_cons_zero, List.set_cons_succ])
  refine wpAnyH_done (by kernel_rfl) ?_ _
  refine gen_exit (R := fun W => EvS W B ev cf b l (.slice A8 n8 cp8) T8 ∧ Sink W Bs b (.slice none 0 0) [] ∧ Below Bs w W ∧ B ≤ W.heap.size) ⟨⟨by simpa using HQ.out.1, HQ.out.2.1, H7.out.1.2.2.1, u1⟩, H7.out.2.2.1.kpe HQ.out.2.2.1, H7.out.2.2.2.drew.trans (HQ.out.2.2.2.mono hBs), Nat.le_trans r5 HQ.out.2.2.2.size⟩ ?_
  rintro w9 ⟨r1, r2, r3, r9⟩
  clear HQ hHeld d0 d6 f0 c6 d7 c7 e0 e6 c15
  have e0 := r1.1.cell 0
  have e1 := r1.1.cell 1
  have e2 := r1.1.cell 2
  simp at e0 e1 e2
  have hne : ev ≠ b := Blk.ne_ r1.1 r2.1 (by decide)
  have H9 := Lib.hid (And.intro r1 (And.intro r2 r3))
  clear r1 r2 r3
  go_wp2
  refine wp_region_held_drew (S := fun W => W.cell? ⟨ev, 0, none⟩ = some (.slice A8 n8 cp8) ∧ W.cell? ⟨ev, 1, none⟩ = some (.iface 62 (.agg #[.iface 24 (.pointer (some ⟨b, 0, none⟩))])) ∧ W.cell? ⟨ev, 2, none⟩ = some (.int .i8 l)) (by kernel_rfl) ?_ (fun hHeld => ?_)
  · exact ⟨e0, e1, e2⟩
  refine wpAnyH_take (i := 0) (oi := ⟨some 50, _, _, _, _, _⟩) (v := ?_) rfl (by kernel_rfl) (by kernel_rfl) (by kernel_rfl) (fun _ _ _ h => h) (Or.inl ⟨by rfl, ?_⟩) (by assumption) ?_
  rotate_left
  · intro W hW; (try dsimp only at hW); go_simp <;> with_reducible rfl
  (try simp only [Act.put, List.setIfInBounds_toArray, List.set_cons_zero, List.set_cons_succ])
  refine wpAnyH_take (i := 1) (oi := ⟨some 51, _, _, _, _, _⟩) (v := ?_) rfl (by kernel_rfl) (by kernel_rfl) (by kernel_rfl) (fun _ _ _ h => h) (Or.inl ⟨by rfl, ?_⟩) (by assumption) ?_
  rotate_left
  · intro W hW; (try dsimp only at hW); go_simp <;> with_reducible rfl
  (try simp only [Act.put, List.setIfInBounds_toArray, List.set_cons_zero, List.set_cons_succ])
  refine wpAnyH_take (i := 2) (oi := ⟨some 52, _, _, _, _, _⟩) (v := ?_) rfl (by kernel_rfl) (by kernel_rfl) (by kernel_rfl) (fun _ _ _ h => h) (Or.inl ⟨by rfl, ?_⟩) (by assumption) ?_
  rotate_left
  · intro W hW; (try dsimp only at hW); go_simp <;> with_reducible rfl
  (try simp only [Act.put, List.setIfInBounds_toArray, List.set_cons_zero, List.set_cons_succ])
  refine wpAnyH_take (i := 3) (oi := ⟨some 53, _, _, _, _, _⟩) (v := ?_) rfl (by kernel_rfl) (by kernel_rfl) (by kernel_rfl) (fun _ _ _ h => h) (Or.inl ⟨by rfl, ?_⟩) (by assumption) ?_
  rotate_left
  · intro W hW; (try dsimp only at hW); go_simp <;> with_reducible rfl
  (try simp only [Act.put, List.setIfInBounds_toArray, List.set_cons_zero, List.set_cons_succ])
  refine wpAnyH_take (i := 4) (oi := ⟨some 54, _, _, _, _, _⟩) (v := ?_) rfl (by kernel_rfl) (by kernel_rfl) (by kernel_rfl) (fun _ _ _ h => h) (Or.inl ⟨by rfl, ?_⟩) (by assumption) ?_
  rotate_left
  · intro W hW; (try dsimp only at hW); go_simp <;> with_reducible rfl
  (try simp only [Act.put, List.setIfInBounds_toArray, List.set_cons_zero, List.set_cons_succ])
  refine wpAnyH_take (i := 5) (oi := ⟨some 55, _, _, _, _, _⟩) (v := ?_) rfl (by kernel_rfl) (by kernel_rfl) (by kernel_rfl) (fun _ _ _ h => h) (Or.inl ⟨by rfl, ?_⟩) (by assumption) ?_
  rotate_left
  · intro W hW; (try dsimp only at hW); go_simp <;> with_reducible rfl
  (try simp only [Act.put, List.setIfInBounds_toArray, List.set_cons_zero, List.set_cons_succ])
  refine wpAnyH_take (i := 6) (oi := ⟨some 56, _, _, _, _, _⟩) (v := ?_) rfl (by kernel_rfl) (by kernel_rfl) (by kernel_rfl) (fun _ _ _ h => h) (Or.inl ⟨by rfl, ?_⟩) (by assumption) ?_
  rotate_left
  · intro W hW; (try dsimp only at hW); go_simp <;> with_reducible rfl
  (try simp only [Act.put, List.setIfInBounds_toArray, List.set_cons_zero, List.set_cons_succ])
  refine wpAnyH_take (i := 7) (oi := ⟨some 57, _, _, _, _, _⟩) (v := ?_) rfl (by kernel_rfl) (by kernel_rfl) (by kernel_rfl) (fun _ _ _ h => h) (Or.inl ⟨by rfl, ?_⟩) (by assumption) ?_
  rotate_left
  · intro W hW; (try dsimp only at hW); go_simp <;> with_reducible rfl
  (try simp only [Act.put, List.setIfInBounds_toArray, List.set_cons_zero, List.set_cons_succ])
  refine wpAnyH_take (i := 8) (oi := ⟨some 58, _, _, _, _, _⟩) (v := ?_) rfl (by kernel_rfl) (by kernel_rfl) (by kernel_rfl) (fun _ _ _ h => h) (Or.inl ⟨by rfl, ?_⟩) (by assumption) ?_
  rotate_left
  · intro W hW; (try dsimp only at hW); go_simp <;> with_reducible rfl
  (try simp only [Act.put, List.setIfInBounds_toArray, List.set_cons_zero, List.set_cons_succ])
  refine wpAnyH_take (i := 9) (oi := ⟨some 59, _, _, _, _, _⟩) (v := ?_) rfl (by kernel_rfl) (by kernel_rfl) (by kernel_rfl) (fun _ _ _ h => h) (Or.inl ⟨by rfl, ?_⟩) (by assumption) ?_
  rotate_left
  · intro W hW; (try dsimp only at hW); go_simp <;> with_reducible rfl
  (try simp only [Act.put, List.setIfInBounds_toArray, List.set_cons_zero, List.set_cons_succ])
  refine wpAnyH_take (i := 10) (oi := ⟨some 60, _, _, _, _, _⟩) (v := ?_) rfl (by kernel_rfl) (by kernel_rfl) (by kernel_rfl) (fun _ _ _ h => h) (Or.inl ⟨by rfl, ?_⟩) (by assumption) ?_
  rotate_left
  · intro W hW; (try dsimp only at hW); go_simp <;> with_reducible rfl
  (try simp only [Act.put, List.setIfInBounds_toArray, List.set_cons_zero, List.set_cons_succ])
  refine wpAnyH_take (i := 11) (oi := ⟨some 61, _, _, _, _, _⟩) (v := ?_) rfl (by kernel_rfl) (by kernel_rfl) (by kernel_rfl) (fun _ _ _ h => h) (Or.inl ⟨by rfl, ?_⟩) (by assumption) ?_
  rotate_left
  · intro W hW; (try dsimp only at hW); go_simp <;> with_reducible rfl
  (try simp only [Act.put, List.setIfInBounds_toArray, List.set_cons_zero, List.set_cons_succ])
  refine wpAnyH_take (i := 12) (oi := ⟨some 62, _, _, _, _, _⟩) (v := ?_) rfl (by kernel_rfl) (by kernel_rfl) (by kernel_rfl) (fun _ _ _ h => h) (Or.inl ⟨by rfl, ?_⟩) (by assumption) ?_
  rotate_left
  · intro W hW; (try dsimp only at hW); go_simp <;> with_reducible rfl
  (try simp only [Act.put, List.setIfInBounds_toArray, List.set_cons_zero, List.set_cons_succ])
  refine wpAnyH_take (i := 13) (oi := ⟨some 63, _, _, _, _, _⟩) (v := ?_) rfl (by kernel_rfl) (by kernel_rfl) (by kernel_rfl) (fun _ _ _ h => h) (Or.inl ⟨by rfl, ?_⟩) (by assumption) ?_
  rotate_left
  · intro W hW; (try dsimp only at hW); go_simp <;> with_reducible rfl
  (try simp only [Act.put, List.setIfInBounds_toArray, List.set_cons_zero, List.set_cons_succ])
  refine wpAnyH_ready (rs := [14]) (by kernel_rfl) (by simp) ?_
  refine AllReadyH.cons (o := ⟨some 64, _, _, _, _, _⟩) rfl (fun K hK => ?_) AllReadyH.nil
  go_simp
  go_at_call 137
  refine (adapter_any Bs b B T8 _ l _ (show Sink w9.drew _ _ _ _ from H9.out.2.1) (Nat.le_trans hBs r9) (show OwnB w9.drew _ _ _ from H9.out.1.2.1) (by omega)).mono ?_
  rintro e wz ⟨⟨x, rfl⟩, hfst, hkp⟩
  have hEz : Blk wz ev _ _ := (hkp.2.2.2.2 ev (show ev < w9.drew.heap.size from H9.out.1.1.lt) hne (by simp [Value.ownBlock])).trans H9.out.1.1
  have i0 := hEz.cell 0
  have i1 := hEz.cell 1
  have i2 := hEz.cell 2
  simp at i0 i1 i2
  have hbz : Below Bs w9.drew wz := kept_bs H9.out.2.1 (Nat.le_trans hBs r9) hkp
  have HZ := Lib.hid (And.intro hfst (H9.out.2.2.drew.trans hbz))
  clear hfst hkp hEz hbz
  refine hK.out _ _ ⟨i0, i1, i2⟩ (fun hHeld => ?_)
  clear hK K
  (try simp only [Act.put, List.setIfInBounds_toArray, List.set_cons_zero, List.set_cons_succ])
  refine wpAnyH_take (i := 15) (oi := ⟨some 49, _, _, _, _, _⟩) (v := ?_) rfl (by kernel_rfl) (by kernel_rfl) (by kernel_rfl) (fun _ _ _ h => h) (Or.inl ⟨by rfl, ?_⟩) (by assumption) ?_
  rotate_left
  · intro W hW; (try dsimp only at hW); go_simp <;> with_reducible rfl
  (try simp only [Act.put, List.setIfInBounds_toArray, List.set_cons_zero, List.set_cons_succ])
  refine wpAnyH_take (i := 16) (oi := ⟨some 65, _, _, _, _, _⟩) (v := ?_) rfl (by kernel_rfl) (by kernel_rfl) (by kernel_rfl) (fun _ _ _ h => h) (Or.inl ⟨by rfl, ?_⟩) (by assumption) ?_
  rotate_left
  · intro W hW; (try dsimp only at hW); go_simp <;> with_reducible rfl
  (try simp only [Act.put, List.setIfInBounds_toArray, List.set_cons_zero, List.set_cons_succ])
  refine wpAnyH_take (i := 17) (oi := ⟨some 66, _, _, _, _, _⟩) (v := ?_) rfl (by kernel_rfl) (by kernel_rfl) (by kernel_rfl) (fun _ _ _ h => h) (Or.inl ⟨by rfl, ?_⟩) (by assumption) ?_
  rotate_left
  · intro W hW; (try dsimp only at hW); go_simp <;> with_reducible rfl
  (try simp only [Act.put, List.setIfInBounds_toArray, List.set_cons_zero, List.set_cons_succ])
  refine wpAnyH_take (i := 18) (oi := ⟨some 2, _, _, _, _, _⟩) (v := ?_) rfl (by kernel_rfl) (by kernel_rfl) (by kernel_rfl) (fun _ _ _ h => h) (Or.inl ⟨by rfl, ?_⟩) (by assumption) ?_
  rotate_left
  · intro W hW; (try dsimp only at hW); go_simp <;> with_reducible rfl
  (try simp only [Act.put, List.setIfInBounds_toArray, List.set_cons_zero, List.set_cons_succ])
  refine wpAnyH_done (by kernel_rfl) ?_ _
  go_wp2_with (go_at_call 32; refine (put_event _ _).mono ?_; rintro e w' ⟨rfl, rfl⟩)
  go_ret
  exact ⟨rfl, HZ.out⟩
end Go.Proofs.YtdbnconphcaclaaGreatDoor
