/-
  zerolog's LevelWriterAdapter and FilteredLevelWriter over impl's lines. Conditions: as each theorem says.
-/
import Derived.Test.YtdbnconphcaclaaDoorSink
namespace Go.Proofs.YtdbnconphcaclaaDoor
open Go.RowKit
set_option linter.unusedVariables false

/-- The bytes of a text, in a block of their own. -/
def PB (w : World) (P : Option Addr) (n : Nat) (s : ByteArray) : Prop := ∃ g cs fz, P = some ⟨g, 0, none⟩ ∧ n = s.size ∧ w.heap[g]? = some (.cells cs 5 fz) ∧ ∀ i (h : i < s.size), cs[i]? = some (.int .u8 s[i].toNat)
theorem PB.conv {w : World} {P : Option Addr} {n : Nat} {s : ByteArray} (h : PB w P n s) (c : Nat) : (convert 29 9 (.slice P n c)).run Tryd.prog w = .ok (.string s) w := by
  obtain ⟨g, cs, fz, rfl, rfl, hb, hc⟩ := h
  exact Lib.run_convert_whole (P := Tryd.prog) w 29 5 9 Tryd.underlying29 Tryd.underlying5 Tryd.underlying9 g 0 s (fun i hi => by rw [cell_of_row w g (0 + i) cs _ fz hb, Nat.zero_add]; exact hc i hi) c
theorem PB.drew {w : World} {P : Option Addr} {n : Nat} {s : ByteArray} (h : PB w P n s) : PB w.drew P n s := h
theorem lt_of_obj {w : World} {g : Nat} {o : Obj} (h : w.heap[g]? = some o) : g < w.heap.size := (Array.getElem?_eq_some_iff.1 h).1
theorem PB.alloc {w : World} {P : Option Addr} {n : Nat} {s : ByteArray} (h : PB w P n s) (o : Obj) : PB (w.alloc o) P n s := by
  obtain ⟨g, cs, fz, h1, h2, hb, hc⟩ := h
  exact ⟨g, cs, fz, h1, h2, (Below.heap_alloc w o g (lt_of_obj hb)).trans hb, hc⟩
theorem Sink.alloc {w : World} {B b : Nat} {v : Value} {xs : List ByteArray} (h : Sink w B b v xs) (o : Obj) : Sink (w.alloc o) B b v xs := ⟨h.1.alloc o, World.ownsRow.alloc h.2.1 o, h.2.2⟩
/-- Blocks of other types stay. -/
def KeptT (w w' : World) : Prop := ∀ (g : Nat) (T : TypeId) (cs : Array Value) (fz : Nat × Nat), w.heap[g]? = some (Obj.cells cs T fz) → T ≠ 81 → T ≠ 9 → w'.heap[g]? = some (Obj.cells cs T fz)
theorem KeptT.trans {a b c : World} (h : KeptT a b) (k : KeptT b c) : KeptT a c := fun g T cs fz hb h1 h2 => k g T cs fz (h g T cs fz hb h1 h2) h1 h2
theorem KeptT.alloc (w : World) (o : Obj) : KeptT w (w.alloc o) := fun g T cs fz hb _ _ => (Below.heap_alloc w o g (lt_of_obj hb)).trans hb
theorem KeptT.refl (w : World) : KeptT w w := fun _ _ _ _ hb _ _ => hb
theorem KeptT.of {w w' : World} {B b : Nat} {v : Value} {xs : List ByteArray} (hs : Sink w B b v xs) (hk : Kept w w' b v) : KeptT w w' := by
  intro g T cs fz hb h1 h2
  refine (hk.2.2.2.2 g (lt_of_obj hb) ?_ ?_).trans hb
  · rintro rfl
    have h3 := hs.1
    unfold Blk at h3
    rw [h3] at hb
    injection hb with hb
    injection hb with _ ht
    exact h1 ht.symm
  · intro e
    rcases hs.2.1.2 with ⟨hv, _⟩ | ⟨g', cap, cur, hv, _, hh, _⟩
    · rw [hv] at e
      simp [Value.ownBlock] at e
    · rw [hv] at e
      have : g = g' := by simpa [Value.ownBlock] using e
      subst this
      rw [hh] at hb
      injection hb with hb
      injection hb with _ ht
      exact h2 ht.symm
theorem KeptT.below {w w' : World} (h : Below w.heap.size w w') : KeptT w w' := fun g T cs fz hb _ _ => (h.block g (lt_of_obj hb)).trans hb
theorem PB.kept {w w' : World} {P : Option Addr} {n : Nat} {s : ByteArray} (h : PB w P n s) (k : KeptT w w') : PB w' P n s := by
  obtain ⟨g, cs, fz, h1, h2, hb, hc⟩ := h
  exact ⟨g, cs, fz, h1, h2, k _ _ _ _ hb (by decide) (by decide), hc⟩

/-- What a write of s leaves: the sink has it, the rest stays. -/
def Wrote (B b : Nat) (v : Value) (ys : List ByteArray) (n : Nat) (w : World) (e : Ending) (w' : World) : Prop :=
  e = .returned (.tuple #[.int .i64 n, .nilIface]) ∧ ∃ v', Sink w' B b v' ys ∧ Kept w w' b v ∧ (v'.ownBlock = v.ownBlock ∨ ∃ g, v'.ownBlock = some g ∧ w.heap.size ≤ g)
theorem Kept.box {w w' : World} {b : Nat} {v : Value} {o : Obj} (h : Kept (w.alloc o) w' b v) : Kept w w' b v := by
  obtain ⟨h1, h2, h3, h4, h5⟩ := h
  simp at h4
  exact ⟨h1, h2, h3, by omega, fun i hi hb hv => (h5 i (by simp; omega) hb hv).trans (Below.heap_alloc w o i hi)⟩
theorem Wrote.box {B b : Nat} {v : Value} {ys : List ByteArray} {n : Nat} {w : World} {e : Ending} {w' : World} {o : Obj} (h : Wrote B b v ys n (w.alloc o) e w') : Wrote B b v ys n w e w' := by
  obtain ⟨h1, v', h2, h3, h4⟩ := h
  refine ⟨h1, v', h2, h3.box, ?_⟩
  rcases h4 with h | ⟨g, h, hg⟩
  · exact .inl h
  · simp at hg
    exact .inr ⟨g, h, by omega⟩

theorem method_write (a : Addr) (w : World) : (method 332 79 (.pointer (some a)) "Write").run Tryd.prog w = .ok (163, .pointer (some a)) w := by kernel_rfl
theorem method_adapter (a : Addr) (w : World) : (method 332 86 (.agg #[.iface 79 (.pointer (some a))]) "WriteLevel").run Tryd.prog w = .ok (168, .agg #[.iface 79 (.pointer (some a))]) w := by kernel_rfl
theorem method_filter (a : Addr) (w : World) : (method 332 82 (.pointer (some a)) "WriteLevel").run Tryd.prog w = .ok (166, .pointer (some a)) w := by kernel_rfl
set_option maxRecDepth 100000 in
theorem adapter_any (B b : Nat) (v : Value) (xs : List ByteArray) (s : ByteArray) (P : Option Addr) (n c : Nat) (l : Int) (w : World) (hs : Sink w B b v xs) (hx : xs.length ≤ 1000) (hB : B ≤ w.heap.size) (hp : PB w P n s) (hn : n ≤ 1000) :
    Calls Tryd.prog 168 #[.agg #[.iface 79 (.pointer (some ⟨b, 0, none⟩))], .int .i8 l, .slice P n c] w (Wrote B b v (xs ++ [s]) n w) := by
  have H := Lib.hid (And.intro hs hp)
  have hm := method_write ⟨b, 0, none⟩
  clear hs hp
  go_enter Tryd.func168, Tryd.ntmps168
  go_wp2_with (go_at_call 163; refine (write_sink B b v xs s P n c _ (H.out.1.alloc _) hx (by simp; omega) ((H.out.2.alloc _).drew.conv c) hn).mono ?_; rintro e w1 ⟨rfl, hw⟩; have H1 := Lib.hid hw; clear hw)
  go_ret2
  exact Wrote.box ⟨rfl, H1.out⟩
set_option maxRecDepth 100000 in
theorem filter_any (B b f : Nat) (lv : Int) (v : Value) (xs : List ByteArray) (s : ByteArray) (P : Option Addr) (n c : Nat) (l : Int) (w : World) (hf : Blk w f 92 #[.iface 86 (.agg #[.iface 79 (.pointer (some ⟨b, 0, none⟩))]), .int .i8 lv]) (hs : Sink w B b v xs) (hx : xs.length ≤ 1000) (hB : B ≤ w.heap.size) (hp : PB w P n s) (hn : n ≤ 1000) :
    Calls Tryd.prog 166 #[.pointer (some ⟨f, 0, none⟩), .int .i8 l, .slice P n c] w (Wrote B b v (xs ++ if lv ≤ l then [s] else []) n w) := by
  have c0 := hf.cell 0
  have c1 := hf.cell 1
  simp at c0 c1
  have H := Lib.hid (And.intro hs (And.intro hp hf))
  have hm := method_adapter ⟨b, 0, none⟩
  clear hs hp hf
  by_cases hl : lv ≤ l
  · rw [if_pos hl]
    go_enter Tryd.func166, Tryd.ntmps166
    go_wp2_with (go_at_call 168; refine (adapter_any B b v xs s P n c l _ H.out.1 hx hB H.out.2.1 hn).mono ?_; rintro e w1 ⟨rfl, hw⟩; have H1 := Lib.hid hw; clear hw)
    go_ret2
    exact ⟨rfl, H1.out⟩
  · rw [if_neg hl, List.append_nil]
    go_enter Tryd.func166, Tryd.ntmps166
    go_wp2
    go_ret2
    exact ⟨rfl, v, H.out.1, ⟨rfl, rfl, rfl, Nat.le_refl _, fun _ _ _ _ => rfl⟩, .inl rfl⟩
end Go.Proofs.YtdbnconphcaclaaDoor
