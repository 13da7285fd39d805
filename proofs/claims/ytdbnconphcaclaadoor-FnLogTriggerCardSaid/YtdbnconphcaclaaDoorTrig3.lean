/-
  zerolog's TriggerLevelWriter: the first line that waits; Close. Conditions: as each theorem says.
-/
import Derived.Test.YtdbnconphcaclaaDoorTrig2
import Derived.Laws.MakeOwn
namespace Go.Proofs.YtdbnconphcaclaaDoor
open Go.RowKit
set_option linter.unusedVariables false

set_option maxRecDepth 100000 in
theorem new_buffer (v : Value) (n : Nat) (A : Option Addr) (c : Nat) (w : World) :
    Calls Tryd.prog 64 #[.slice A n c] w fun e w' => e = .returned (.pointer (some ⟨w.heap.size, 0, none⟩)) ∧ w' = w.alloc (.cells #[.slice A n c, .int .i64 0, .int .i8 0] 145) := by
  go_enter Tryd.func64, Tryd.ntmps64
  go_wp2
  go_ret
  exact ⟨rfl, rfl⟩
/-- make([]byte, 0, 1024). -/
theorem make_x (w : World) : ∃ w' cur, (Instr.makeSlice 29 (.int .i64 0) (.int .i64 1024)).run Tryd.prog w = .ok (.slice (some ⟨w.heap.size, 0, none⟩) 0 1024) w' ∧ Blk w' w.heap.size 5 cur ∧ cur.size = 1024 ∧ w.grownBy w' none := by
  obtain ⟨ti, hi, hz0, hz, hz2⟩ := info_parts byte_info
  obtain ⟨w', h1, h2, h3⟩ := run_make_own (P := Tryd.prog) w w.heap.size 29 5 ti (.int .u8 0) 1 Tryd.underlying29 hi hz0 hz .i64 .i64 1024 (by rw [hz2]; omega) (by unfold maxLen; omega) (Nat.le_refl _)
  obtain ⟨hl, h | ⟨g, cap, cur, hv, hb, hh, a1, a2, a3, a4⟩⟩ := h2
  · cases h.1
  · injection hv with e1 e2 e3
    obtain rfl : w.heap.size = g := by simpa using e1
    subst e3
    exact ⟨w', cur, h1, hh, by rw [a3], h3⟩
/-- The writer with a new buffer. -/
def NewW (w0 : World) (g t : Nat) : World := (w0.alloc (.cells #[.slice (some ⟨g, 0, none⟩) 0 1024, .int .i64 0, .int .i8 0] 145)).setCell ⟨t, 3, none⟩ (.pointer (some ⟨w0.heap.size, 0, none⟩))
theorem sink_below {w w' : World} {B b : Nat} {v : Value} {xs : List ByteArray} (h : Sink w B b v xs) (hb : Below w.heap.size w w') : Sink w' B b v xs := by
  refine ⟨h.1.below hb h.1.lt, ?_, h.2.2⟩
  refine World.ownsRow.kept h.2.1 (only_of_below hb none) ?_
  cases v.ownBlock with
  | none => exact .inl rfl
  | some g => exact .inr (by simp)
theorem new_state {w w0 : World} {B t out n : Nat} {cond trig : Int} {v : Value} {ys : List ByteArray} {s : ByteArray} {P : Option Addr} {cur : Array Value} (ht : TW w t out cond trig (.pointer none) false) (hs : Sink w B out v ys) (hp : PB w P n s) (htb : B ≤ t) (hB : B ≤ w.heap.size) (hg : Blk w0 w.heap.size 5 cur) (hcs : cur.size = 1024) (hgr : w.grownBy w0 none) :
    Res (NewW w0 w.heap.size t) w0.heap.size w.heap.size 1024 (wb []).length (wb []) ∧ TW (NewW w0 w.heap.size t) t out cond trig (.pointer (some ⟨w0.heap.size, 0, none⟩)) false ∧ Sink (NewW w0 w.heap.size t) B out v ys ∧ PB (NewW w0 w.heap.size t) P n s ∧ Below B w (NewW w0 w.heap.size t) ∧ (∀ a, P = some a → a.block ≠ w.heap.size) ∧ B ≤ w0.heap.size ∧ w.heap.size ≤ (NewW w0 w.heap.size t).heap.size ∧ ∀ o, (w0.alloc o).cell? ⟨t, 3, none⟩ = some (.pointer none) ∧ (w0.alloc o).frozen? ⟨t, 3, none⟩ = false := by
  have hb : Below w.heap.size w w0 := ⟨hgr.os, hgr.tape, hgr.output, hgr.size, fun i hi => hgr.block i hi (by simp)⟩
  have ht0 : TW w0 t out cond trig (.pointer none) false := Blk.below ht hb (Blk.lt ht)
  have hs0 := sink_below hs hb
  have hp0 : PB w0 P n s := hp.kept (KeptT.below hb)
  have hsz := hgr.size
  have htl : t < w.heap.size := Blk.lt ht
  have ht1 := Blk.alloc ht0 (.cells #[.slice (some ⟨w.heap.size, 0, none⟩) 0 1024, .int .i64 0, .int .i8 0] 145)
  have hlt : w.heap.size < w0.heap.size := hg.lt
  refine ⟨⟨0, cur, ?_, ?_, by simp [wb], Nat.le_refl _, Nat.le_refl _, by unfold maxLen; omega, hcs, rfl⟩, ?_, ?_, ?_, ?_, ?_, by omega, ?_, ?_⟩
  · exact Blk.far (Blk.new w0 _ _) (p := ⟨t, 3, none⟩) (by simp; omega) _
  · exact Blk.far (hg.alloc _) (p := ⟨t, 3, none⟩) (by simp; omega) _
  · have := Blk.set_ ht1 3 (.pointer (some ⟨w0.heap.size, 0, none⟩))
    unfold TW NewW
    simpa using this
  · exact sink_far (hs0.alloc _) ht1 (by decide) (by decide)
  · exact KU.pb (hp0.alloc _) (KU.flag (n := 0) ht1 (by decide))
  · exact ((hb.mono hB).alloc (by omega) _).setCell htb _
  · rintro a rfl
    obtain ⟨gp, _, _, e, _, h3, _⟩ := hp
    have := lt_of_obj h3
    obtain rfl : a = ⟨gp, 0, none⟩ := by simpa using e
    show gp ≠ _
    omega
  · simp [NewW, World.setCell]
    omega
  · intro o
    have h := Blk.alloc ht0 o
    exact ⟨by simpa using h.cell 3, h.frozen 3⟩
set_option maxRecDepth 100000 in
theorem wl_nil (B t out : Nat) (cond trig l : Int) (v : Value) (ys : List ByteArray) (s : ByteArray) (P : Option Addr) (n c : Nat) (w : World) (ht : TW w t out cond trig (.pointer none) false) (h1 : l < trig) (h2 : l ≤ cond) (hs : Sink w B out v ys) (htb : B ≤ t) (hx : WOk (l, s)) (hB : B ≤ w.heap.size) (hp : PB w P n s) :
    Calls Tryd.prog 46 #[.pointer (some ⟨t, 0, none⟩), .int .i8 l, .slice P n c] w (BufPost B t out cond trig ys [(l, s)] n w) := by
  have c1 := ht.cell 1
  have c2 := ht.cell 2
  have c3 := ht.cell 3
  have c4 := ht.cell 4
  have f3 := ht.frozen 3
  simp at c1 c2 c3 c4
  have hwl := u8_lb hx.1 hx.2.1
  have hn : n = s.size := by obtain ⟨_, _, _, _, e, _⟩ := hp; exact e
  subst hn
  have hn0 : 1 ≤ s.size := hx.2.2.1
  have hn1 : s.size ≤ 100 := hx.2.2.2.1
  have H := Lib.hid (And.intro ht (And.intro hs (And.intro hp hx)))
  clear ht hs hp hx
  go_enter Tryd.func46, Tryd.ntmps46
  obtain ⟨w0, cur, hmk, hg, hcs, hgr⟩ := make_x w
  obtain ⟨n1, n2, n3, n4, n5, n6, n7, n8, n9⟩ := new_state H.out.1 H.out.2.1 H.out.2.2.1 htb hB hg hcs hgr
  have g3 := fun o => (n9 o).1
  have g4 := fun o => (n9 o).2
  have d3 := n2.cell 3
  simp at d3
  have HN := Lib.hid (And.intro n1 (And.intro n2 (And.intro n3 (And.intro n4 (And.intro n5 (And.intro n6 (And.intro n7 n8)))))))
  clear n1 n2 n3 n4 n5 n6 n7 n8 n9 hg hcs hgr
  unfold NewW at d3
  go_wp2_with (first
    | (go_at_call 66; refine (write_x w0.heap.size g1 cap1 s.size c (wb [] ++ [lb l]) s P _ H1.out.1 (by simp [wb]) (by simp) H1.out.2.2.2.2.1 hn0 hn1).mono ?_; rintro e w2 ⟨rfl, hw2⟩; have H2 := Lib.hid hw2; clear hw2)
    | (go_at_call 65; refine (wbyte_x w0.heap.size w.heap.size 1024 (wb []) (lb l) (NewW w0 w.heap.size t) HN.out.1 (by simp [wb])).mono ?_; rintro e w1 ⟨rfl, g1, cap1, q1, q2, q3⟩; have hk1 := KeptB.of HN.out.1 q3; obtain ⟨_, _, hbk, -⟩ := HN.out.1; have hp1 := HN.out.2.2.2.1.stay hbk (by decide) HN.out.2.2.2.2.2.1 q3; have ht1 := HN.out.2.1.keptB hk1; have e3 := ht1.cell 3; simp at e3; have H1 := Lib.hid (And.intro q1 (And.intro q2 (And.intro q3 (And.intro hk1 (And.intro hp1 ht1))))); clear q1 q2 q3 hk1 hp1 ht1 hbk)
    | (go_at_call 64; refine (new_buffer v 0 _ _ _).mono ?_; rintro e w1 ⟨rfl, rfl⟩))
  go_ret2
  obtain ⟨g3, cap3, r1, r2, r3⟩ := H2.out
  have hk2 := KeptB.of H1.out.1 r3
  have hbb : B ≤ w0.heap.size := HN.out.2.2.2.2.2.2.1
  have hNW := HN.out.2.2.2.2.2.2.2
  have hg1 : B ≤ g1 := by rcases H1.out.2.1 with h | h <;> omega
  have hs1 := H1.out.2.2.1.2.2.2.1
  have hs2 := r3.2.2.2.1
  have hg3 : B ≤ g3 := by rcases r2 with h | h <;> omega
  refine ⟨rfl, ⟨v, _, H1.out.2.2.2.2.2.keptB hk2, (HN.out.2.2.1.keptB H1.out.2.2.2.1).keptB hk2, htb, ?_, fun _ => .inr ⟨w0.heap.size, g3, cap3, rfl, hbb, hg3, r1.lt, ?_⟩, fun h => by cases h⟩, HN.out.2.2.2.2.1.trans ((H1.out.2.2.1.below hbb hB (by omega)).trans (r3.below hbb hg1 (by omega)))⟩
  · intro x hx
    obtain rfl := List.mem_singleton.1 hx
    exact H.out.2.2.2
  · have e := wb_snoc [] l s
    rw [List.nil_append] at e
    rw [e]
    exact r1
set_option maxRecDepth 100000 in
theorem close_any (B M t out : Nat) (cond trig : Int) (o : Bool) (ys : List ByteArray) (ws : List (Int × ByteArray)) (w : World) (h : St w B M t out cond trig o ys ws) :
    Calls Tryd.prog 44 #[.pointer (some ⟨t, 0, none⟩)] w fun e w' => e = .returned .nilIface ∧ (∃ v', Sink w' B out v' ys) ∧ Below B w w' := by
  obtain ⟨v, buf, ht, hs, htb, hok, h1, h2⟩ := h
  have hbuf : buf = .pointer none ∨ ∃ bb, buf = .pointer (some ⟨bb, 0, none⟩) := by
    cases o
    · rcases h1 rfl with ⟨h, -⟩ | ⟨bb, _, _, h, -⟩
      · exact .inl h
      · exact .inr ⟨bb, h⟩
    · exact (h2 rfl).2
  have c3 := ht.cell 3
  have f3 := ht.frozen 3
  simp at c3
  have H := Lib.hid (And.intro ht hs)
  clear ht hs h1 h2
  go_enter Tryd.func44, Tryd.ntmps44
  rcases hbuf with rfl | ⟨bb, rfl⟩
  · go_wp2
    go_ret
    exact ⟨rfl, ⟨v, H.out.2⟩, Below.refl _ _⟩
  · go_wp2
    go_ret
    exact ⟨rfl, ⟨v, sink_far H.out.2 H.out.1 (by decide) (by decide)⟩, (Below.refl _ _).setCell htb _⟩
end Go.Proofs.YtdbnconphcaclaaDoor
