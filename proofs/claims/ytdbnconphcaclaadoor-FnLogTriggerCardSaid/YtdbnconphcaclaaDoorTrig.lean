/-
  zerolog's TriggerLevelWriter over impl's lines: trigger. Conditions: as each theorem says.
-/
import Derived.Test.YtdbnconphcaclaaDoorWriter
import Derived.Test.YtdbnconphcaclaaDoorShelfBuf
import Derived.Stop.Asserts
namespace Go.Proofs.YtdbnconphcaclaaDoor
open Go.RowKit
set_option linter.unusedVariables false

/-- A level as a byte. -/
def lb (l : Int) : UInt8 := UInt8.ofNat (l % 256).toNat
/-- What the buffer holds: each line behind its level. -/
def wb (ws : List (Int × ByteArray)) : List UInt8 := ws.flatMap fun x => lb x.1 :: x.2.data.toList
def RN : Nat → Option Value := fun _ => none
/-- The writer's own block. -/
def TW (w : World) (t out : Nat) (cond trig : Int) (buf : Value) (tr : Bool) : Prop := Blk w t 101 #[.iface 79 (.pointer (some ⟨out, 0, none⟩)), .int .i8 cond, .int .i8 trig, buf, .bool tr]
def BufOk (w : World) (B : Nat) (buf : Value) (ws : List (Int × ByteArray)) : Prop := (buf = .pointer none ∧ ws = []) ∨ ∃ bb, buf = .pointer (some ⟨bb, 0, none⟩) ∧ LibA.IsBuffer 145 RN 5 B bb 0 (bytesV (wb ws)) w
/-- A line: its level, its text with the one line feed at the end. -/
def WOk (x : Int × ByteArray) : Prop := -1 ≤ x.1 ∧ x.1 ≤ 7 ∧ 1 ≤ x.2.size ∧ x.2.size ≤ 100 ∧ ∀ i (h : i < x.2.size), (x.2[i].toNat = 10 ↔ i + 1 = x.2.size)

set_option maxRecDepth 100000 in
theorem trigger_none (B t out : Nat) (cond trig : Int) (w : World) (ht : TW w t out cond trig (.pointer none) false) :
    Calls Tryd.prog 62 #[.pointer (some ⟨t, 0, none⟩)] w fun e w' => e = .returned .nilIface ∧ w' = w.setCell ⟨t, 4, none⟩ (.bool true) := by
  have c3 := ht.cell 3
  have c4 := ht.cell 4
  have f4 := ht.frozen 4
  simp at c3 c4
  have hne : (w.setCell ⟨t, 4, none⟩ (.bool true)).cell? ⟨t, 3, none⟩ = some (.pointer none) := by rw [World.cell?_setCell_other _ _ _ _ (by simp)]; exact c3
  clear ht
  go_enter Tryd.func62, Tryd.ntmps62
  go_wp2
  go_ret
  exact ⟨rfl, rfl⟩

theorem buf_far {w : World} {B bb t : Nat} {bs : List Value} {u : Value} {j : Nat} {T : TypeId} {cs : Array Value} (h : Lib.IsBuffer 145 5 B bb bs w) (ht : Blk w t T cs) (h1 : T ≠ 145) (h2 : T ≠ 5) : Lib.IsBuffer 145 5 B bb bs (w.setCell ⟨t, j, none⟩ u) := by
  obtain ⟨hB, v, lr, hb, ho, hne⟩ := h
  have hbt : bb ≠ t := by
    rintro rfl
    unfold Blk at ht
    rw [hb] at ht
    injection ht with ht
    injection ht with _ e
    exact h1 e.symm
  refine ⟨hB, v, lr, (Below.heap_setCell w ⟨t, j, none⟩ u bb hbt).trans hb, World.ownsRow.kept ho (only_setCell (World.grownBy.refl w (some t)) (.inl rfl) u) (.inr (own_blk_ne ho ht (fun e => h2 e.symm))), hne⟩
theorem buf_flag {w : World} {B bb t out : Nat} {cond trig : Int} {buf : Value} {tr : Bool} {bs : List Value} {u : Value} (h : Lib.IsBuffer 145 5 B bb bs w) (ht : TW w t out cond trig buf tr) : Lib.IsBuffer 145 5 B bb bs (w.setCell ⟨t, 4, none⟩ u) := buf_far h ht (by decide) (by decide)
/-- A row of bytes at P that reads as t, in a block of bytes. -/
def RowT (w : World) (P : Option Addr) (c : Nat) (t : ByteArray) : Prop := t.size ≤ c ∧ (0 < t.size → ∃ g o cs fz, P = some ⟨g, o, none⟩ ∧ w.heap[g]? = some (.cells cs 5 fz) ∧ Lib.Bytes w g o t)
theorem bytes_keep {w w' : World} {g o : Nat} {t : ByteArray} (h : Lib.Bytes w g o t) (hh : w'.heap[g]? = w.heap[g]?) : Lib.Bytes w' g o t := fun i hi => (World.cell?_of_block (a := ⟨g, o + i, none⟩) hh).trans (h i hi)
theorem RowT.kept {w w' : World} {P : Option Addr} {c : Nat} {t : ByteArray} (h : RowT w P c t) (k : KeptT w w') : RowT w' P c t := by
  refine ⟨h.1, fun hp => ?_⟩
  obtain ⟨g, o, cs, fz, rfl, hb, hc⟩ := h.2 hp
  have hb' := k _ _ _ _ hb (by decide) (by decide)
  exact ⟨g, o, cs, fz, rfl, hb', bytes_keep hc (hb'.trans hb.symm)⟩
theorem RowT.of_own {w : World} {B n : Nat} {P : Option Addr} {c : Nat} {l : List UInt8} (h : w.ownsRow B 5 1 (.slice P n c) n (bytesV l)) : n = (⟨l.toArray⟩ : ByteArray).size ∧ RowT w P c ⟨l.toArray⟩ := by
  have hn : n = l.length := by have := h.1; simp [bytesV_length] at this; omega
  subst hn
  have hs : (⟨l.toArray⟩ : ByteArray).size = l.length := by simp [ByteArray.size]
  refine ⟨hs.symm, ?_, fun hp => ?_⟩
  · obtain ⟨hlen, h | ⟨g, cap, cur, hv, hg, hc, hn, hcap, hsz, ht⟩⟩ := h
    · have := h.2
      rw [hs]
      omega
    · injection hv with _ _ e
      rw [hs]
      omega
  · rcases own_bytes (show OwnB w B _ l from h) with ⟨-, rfl⟩ | ⟨g, cap, hv, -, hb⟩
    · simp [ByteArray.size] at hp
    · injection hv with e1 _ e2
      subst e1 e2
      obtain ⟨hlen, h | ⟨g', cap', cur, hv, hg, hc, hn, hcap, hsz, ht⟩⟩ := h
      · have := h.2
        rw [hs] at hp
        omega
      · injection hv with e1 _ e2
        obtain rfl : g = g' := by simpa using e1
        exact ⟨g, 0, _, _, rfl, hc, hb⟩
theorem idx_of : ∀ (a r : List UInt8), (∀ y ∈ a, y ≠ 10) → Lib.indexByte (a ++ 10 :: r) 10 = a.length
  | [], r, _ => by simp [Lib.indexByte]
  | y :: a, r, h => by
    have ih := idx_of a r (fun z hz => h z (List.mem_cons_of_mem _ hz))
    have hy : (y == 10) = false := by simpa using h y (List.mem_cons_self ..)
    have : (((a.length : Nat) : Int) == -1) = false := by simp
    simp [Lib.indexByte, hy, ih, this]
theorem line_split {x : Int × ByteArray} (h : WOk x) : ∃ a, x.2.data.toList = a ++ [10] ∧ (∀ y ∈ a, y ≠ 10) ∧ a.length + 1 = x.2.size := by
  obtain ⟨h1, h2, h3, h4, h5⟩ := h
  have hl := size_list x.2
  have hne : x.2.data.toList ≠ [] := by intro e; rw [e] at hl; simp only [List.length_nil] at hl; omega
  refine ⟨x.2.data.toList.dropLast, ?_, ?_, by rw [List.length_dropLast]; rw [← hl]; omega⟩
  · have e1 : x.2.data.toList.getLast hne = 10 := by
      rw [List.getLast_eq_getElem]
      have := (h5 (x.2.size - 1) (by omega)).2 (by omega)
      apply UInt8.toNat_inj.1
      rw [show ((10 : UInt8).toNat = 10) from rfl, ← this]
      congr 1
    rw [← e1, List.dropLast_concat_getLast]
  · intro y hy e
    subst e
    obtain ⟨i, hi, hyi⟩ := List.getElem_of_mem hy
    rw [List.length_dropLast] at hi
    rw [List.getElem_dropLast] at hyi
    have hi2 : i < x.2.size := by omega
    have := (h5 i hi2).1 (by
      show (x.2.data[i]).toNat = 10
      simp only [Array.getElem_toList] at hyi
      rw [hyi]
      rfl)
    omega
theorem lb_ne {l : Int} (h0 : -1 ≤ l) (h1 : l ≤ 7) : lb l ≠ 10 := by
  have : l = -1 ∨ l = 0 ∨ l = 1 ∨ l = 2 ∨ l = 3 ∨ l = 4 ∨ l = 5 ∨ l = 6 ∨ l = 7 := by omega
  rcases this with rfl | rfl | rfl | rfl | rfl | rfl | rfl | rfl | rfl <;> decide
theorem wb_idx {x : Int × ByteArray} {ws : List (Int × ByteArray)} (h : WOk x) : Lib.indexByte (wb (x :: ws)) 10 = x.2.size := by
  obtain ⟨a, e, h1, h2⟩ := line_split h
  rw [wb, List.flatMap_cons, e]
  have := idx_of (lb x.1 :: a) (wb ws) (fun y hy => by
    rcases List.mem_cons.1 hy with rfl | hy
    · exact lb_ne h.1 h.2.1
    · exact h1 y hy)
  have e2 : (lb x.1 :: (a ++ [10])) ++ List.flatMap (fun x => lb x.1 :: x.2.data.toList) ws = lb x.1 :: a ++ 10 :: wb ws := by simp [wb]
  rw [e2, this]
  simp
  omega
theorem idx_line {x : Int × ByteArray} {ws : List (Int × ByteArray)} (h : WOk x) (g o c N S : Nat) (t : ByteArray) (w : World) (hN : N = t.size) (hS : S = x.2.size) (ht : t.data.toList = wb (x :: ws)) (hb : Lib.Bytes w g o t) :
    Calls Tryd.prog 80 #[.slice (some ⟨g, o, none⟩) N c, .int .u8 10] w fun e w' => e = .returned (.int .i64 S) ∧ w' = w := by
  subst hN hS
  refine (Tryd.bytes_IndexByte_bytes g o c t 10 w hb).mono ?_
  rintro e w' ⟨rfl, rfl⟩
  refine ⟨?_, rfl⟩
  rw [ht, show ((10 : Int).toNat.toUInt8) = 10 from rfl, wb_idx h]
theorem Sink.drewN {w : World} {B b : Nat} {v : Value} {xs : List ByteArray} (h : Sink w B b v xs) (n : Nat) : Sink (w.drewN n) B b v xs := h
theorem sink_far {w : World} {B b t j : Nat} {v u : Value} {xs : List ByteArray} {T : TypeId} {cs : Array Value} (h : Sink w B b v xs) (ht : Blk w t T cs) (h1 : T ≠ 81) (h2 : T ≠ 9) : Sink (w.setCell ⟨t, j, none⟩ u) B b v xs := by
  refine ⟨h.1.far (Blk.ne_ h.1 ht (fun e => h1 e.symm)) u, World.ownsRow.kept h.2.1 (only_setCell (World.grownBy.refl w (some t)) (.inl rfl) u) (.inr (own_blk_ne h.2.1 ht (fun e => h2 e.symm))), h.2.2⟩
theorem bytes_part {w : World} {g o k : Nat} {t s : ByteArray} {p q : List UInt8} (h : Lib.Bytes w g o t) (ht : t.data.toList = p ++ (s.data.toList ++ q)) (hk : k = p.length) : Lib.Bytes w g (o + k) s := by
  subst hk
  intro i hi
  have hl := congrArg List.length ht
  rw [List.length_append, List.length_append, ← size_list, ← size_list] at hl
  have hj : p.length + i < t.size := by omega
  have := h (p.length + i) hj
  rw [Nat.add_assoc, this]
  have e : t[p.length + i] = s[i] := by
    show t.data[p.length + i] = s.data[i]
    rw [← Array.getElem_toList, ← Array.getElem_toList]
    have h2 : t.data.toList[p.length + i]? = s.data.toList[i]? := by
      rw [ht, List.getElem?_append_right (by omega), Nat.add_sub_cancel_left, List.getElem?_append_left (by rw [← size_list]; exact hi)]
    rw [List.getElem?_eq_getElem (by rw [← size_list]; exact hj), List.getElem?_eq_getElem (by rw [← size_list]; exact hi)] at h2
    exact Option.some.inj h2
  rw [e]
theorem kept_below {w w' : World} {B b : Nat} {v : Value} {xs : List ByteArray} (hs : Sink w B b v xs) (hB : B ≤ w.heap.size) (hk : Kept w w' b v) : Below B w w' := by
  refine ⟨hk.1, hk.2.1, hk.2.2.1, hk.2.2.2.1, fun i hi => hk.2.2.2.2 i (by omega) (by have := hs.2.2; omega) (fun e => ?_)⟩
  have := (hs.2.1.lt i e.symm).1
  omega
theorem line_write {x : Int × ByteArray} {ws : List (Int × ByteArray)} (B out : Nat) (v : Value) (xs : List ByteArray) (g o c S : Nat) (t : ByteArray) (w : World) (hs : Sink w B out v xs) (hx : xs.length ≤ 1000) (hB : B ≤ w.heap.size) (ht : t.data.toList = wb (x :: ws)) (hb : Lib.Bytes w g o t) (hS : S = x.2.size) (hS2 : S ≤ 100) :
    Calls Tryd.prog 163 #[.pointer (some ⟨out, 0, none⟩), .slice (some ⟨g, o + 1, none⟩) S c] w fun e w' => e = .returned (.tuple #[.int .i64 S, .nilIface]) ∧ ∃ v', Sink w' B out v' (xs ++ [x.2]) ∧ KeptT w w' ∧ Below B w w' := by
  subst hS
  have hm : Lib.Bytes w g (o + 1) x.2 := bytes_part (p := [lb x.1]) (q := wb ws) hb ht rfl
  refine (write_sink B out v xs x.2 _ _ c w hs hx hB (Lib.run_convert_whole (P := Tryd.prog) w.drew 29 5 9 Tryd.underlying29 Tryd.underlying5 Tryd.underlying9 g (o + 1) x.2 (hm.drewN 1) c) (by omega)).mono ?_
  rintro e w' ⟨rfl, v', h1, h2, -⟩
  exact ⟨rfl, v', h1, KeptT.of hs h2, kept_below hs hB h2⟩
theorem TW.flag {w : World} {t out : Nat} {cond trig : Int} {buf : Value} {tr : Bool} (h : TW w t out cond trig buf tr) : TW (w.setCell ⟨t, 4, none⟩ (.bool true)) t out cond trig buf true := by
  have := Blk.set_ h 4 (.bool true)
  unfold TW
  simpa using this
theorem TW.kept {w w' : World} {t out : Nat} {cond trig : Int} {buf : Value} {tr : Bool} (h : TW w t out cond trig buf tr) (k : KeptT w w') : TW w' t out cond trig buf tr := k _ _ _ _ h (by decide) (by decide)
/-- Rows of bytes stay. -/
def KU (w w' : World) : Prop := ∀ (g : Nat) (cs : Array Value) (fz : Nat × Nat), w.heap[g]? = some (.cells cs 5 fz) → w'.heap[g]? = some (.cells cs 5 fz)
theorem KU.trans {a b c : World} (h : KU a b) (k : KU b c) : KU a c := fun g cs fz hb => k g cs fz (h g cs fz hb)
theorem KU.of {w w' : World} (h : KeptT w w') : KU w w' := fun g cs fz hb => h g _ cs fz hb (by decide) (by decide)
theorem KU.flag {w : World} {t j n : Nat} {u : Value} {T : TypeId} {cs : Array Value} (ht : Blk w t T cs) (h1 : T ≠ 5) : KU w ((w.setCell ⟨t, j, none⟩ u).drewN n) := by
  intro g cs' fz hb
  refine (Below.heap_setCell w ⟨t, j, none⟩ u g ?_).trans hb
  rintro rfl
  unfold Blk at ht
  rw [ht] at hb
  injection hb with hb
  injection hb with _ e
  exact h1 e
theorem KU.pb {w w' : World} {P : Option Addr} {n : Nat} {s : ByteArray} (h : PB w P n s) (k : KU w w') : PB w' P n s := by
  obtain ⟨g, cs, fz, h1, h2, hb, hc⟩ := h
  exact ⟨g, cs, fz, h1, h2, k _ _ _ hb, hc⟩
def slLen : Value → Nat
  | .slice _ n _ => n
  | _ => 0
theorem assert_lines (a : Addr) (w : World) : (Instr.typeAssert (.iface 79 (.pointer (some a))) 84 90 true).run Tryd.prog w = .ok (.tuple #[.nilIface, .bool false]) w := run_typeAssert_lacksB Tryd.underlying90 (by kernel_rfl) (by kernel_rfl) _ _ w
set_option maxRecDepth 100000 in
set_option maxHeartbeats 1000000 in
theorem trigger_buf (B t out bb : Nat) (cond trig : Int) (v : Value) (xs : List ByteArray) (ws : List (Int × ByteArray)) (w : World) (ht : TW w t out cond trig (.pointer (some ⟨bb, 0, none⟩)) false) (hs : Sink w B out v xs) (hbuf : Lib.IsBuffer 145 5 B bb (bytesV (wb ws)) w) (hws : ∀ x ∈ ws, WOk x) (hx : xs.length + ws.length ≤ 900) (hB : B ≤ w.heap.size) (htb : B ≤ t) :
    Calls Tryd.prog 62 #[.pointer (some ⟨t, 0, none⟩)] w fun e w' => e = .returned .nilIface ∧ (∃ v', Sink w' B out v' (xs ++ ws.map (·.2))) ∧ TW w' t out cond trig (.pointer (some ⟨bb, 0, none⟩)) true ∧ Below B w w' ∧ KU w w' := by
  have c3 := ht.cell 3
  have c4 := ht.cell 4
  have f4 := ht.frozen 4
  simp at c3 c4
  have hne : (w.setCell ⟨t, 4, none⟩ (.bool true)).cell? ⟨t, 3, none⟩ = some (.pointer (some ⟨bb, 0, none⟩)) := by rw [World.cell?_setCell_other _ _ _ _ (by simp)]; exact c3
  have H := Lib.hid (And.intro ht (And.intro hs (And.intro hbuf hws)))
  clear ht hs hbuf hws
  go_enter Tryd.func62, Tryd.ntmps62
  go_wp2_with (go_at_call 79; refine (Tryd.Buffer_Bytes B bb (bytesV (wb ws)) _ (buf_flag H.out.2.2.1 H.out.1)).mono ?_; rintro e w1 ⟨p, rfl, hp, n1, hw1⟩; obtain ⟨Ap, cp, rfl⟩ := own_slice hp; have H1 := Lib.hid (And.intro hp hw1); clear hp hw1)
  go_loopw [3] (fun p wr => ∃ ws2 b P c xs2 v2, p = .slice P b.size c ∧ RowT wr P c b ∧ b.data.toList = wb ws2 ∧ Sink wr B out v2 xs2 ∧ xs2 ++ ws2.map (·.2) = xs ++ ws.map (·.2) ∧ (∀ x ∈ ws2, WOk x) ∧ TW wr t out cond trig (.pointer (some ⟨bb, 0, none⟩)) true ∧ Below B w wr ∧ KU w wr) (fun p _ => slLen p)
  case atStart =>
    obtain ⟨e1, e2⟩ := RowT.of_own H1.out.1
    refine ⟨ws, ⟨(wb ws).toArray⟩, Ap, cp, xs, v, by rw [← e1], e2, by simp, ?_, rfl, H.out.2.2.2, ?_, ?_, ?_⟩
    · rw [H1.out.2]
      exact (sink_far H.out.2.1 H.out.1 (by decide) (by decide)).drewN n1
    · rw [H1.out.2]
      exact TW.flag H.out.1
    · rw [H1.out.2]
      exact below_drewN ((Below.refl B w).setCell htb _) n1
    · rw [H1.out.2]
      exact KU.flag H.out.1 (by decide)
  case round =>
    obtain ⟨ws2, b, P, c, xs2, v2, rfl, hrow, hbt, hsk, hxw, hok, htw, hbel, hku⟩ := hrel
    have HKU := Lib.hid hku
    clear hku
    cases ws2 with
    | nil =>
      have h0 : b.size = 0 := by rw [size_list, hbt]; rfl
      have HB := Lib.hid (And.intro hsk (And.intro hxw (And.intro htw hbel)))
      clear hrow hbt hsk hxw hok htw hbel
      rw [h0]
      go_wp2
      go_ret
      exact ⟨rfl, ⟨v2, by rw [← HB.out.2.1]; simpa using HB.out.1⟩, HB.out.2.2.1, HB.out.2.2.2, HKU.out⟩
    | cons x ws3 =>
      have hxo := hok x (List.mem_cons_self ..)
      obtain ⟨N, hN⟩ : ∃ N, N = b.size := ⟨_, rfl⟩
      obtain ⟨S, hS⟩ : ∃ S, S = x.2.size := ⟨_, rfl⟩
      have hbt2 : b.data.toList = [lb x.1] ++ (x.2.data.toList ++ wb ws3) := hbt
      have hlen := congrArg List.length hbt2
      rw [List.length_append, List.length_append, ← size_list, ← size_list, ← hN, ← hS] at hlen
      simp only [List.length_cons, List.length_nil] at hlen
      have hb3 : N - (S + 1) = (⟨(wb ws3).toArray⟩ : ByteArray).size := by simp [ByteArray.size]; omega
      have hNS : S + 1 ≤ N := by omega
      have hNc : N ≤ c := hN ▸ hrow.1
      have hS1 : 1 ≤ S := hS ▸ hxo.2.2.1
      have hS2 : S ≤ 100 := hS ▸ hxo.2.2.2.1
      obtain ⟨g, o, cs, fz, rfl, hgb, hbb⟩ := hrow.2 (by omega)
      have e0 := htw.cell 0
      simp at e0
      have has := assert_lines ⟨out, 0, none⟩
      have hm := method_write ⟨out, 0, none⟩
      have hl0 : wr.cell? ⟨g, o, none⟩ = some (.int .u8 (lb x.1).toNat) := by
        have h0 : 0 < b.size := by omega
        have := hbb 0 h0
        rw [Nat.add_zero] at this
        rw [this]
        have e : b[0] = lb x.1 := by
          show b.data[0] = _
          rw [← Array.getElem_toList]
          simp [hbt2]
        rw [e]
      have hb4 : Lib.Bytes wr g (o + (S + 1)) ⟨(wb ws3).toArray⟩ := bytes_part (p := lb x.1 :: x.2.data.toList) (q := []) hbb (by rw [hbt2]; simp) (by rw [List.length_cons, ← size_list, hS])
      have hxl : xs2.length ≤ 1000 := by
        have := congrArg List.length hxw
        simp at this
        omega
      have HR : ∀ k, k = N - (S + 1) → RowT wr (some ⟨g, o + (S + 1), none⟩) (c - (S + 1)) ⟨(wb ws3).toArray⟩ := fun k hk => ⟨by omega, fun _ => ⟨g, _, cs, fz, rfl, hgb, hb4⟩⟩
      have HB := Lib.hid (And.intro hrow (And.intro hbt (And.intro hsk (And.intro hxw (And.intro hok (And.intro htw (And.intro hbel (And.intro hxo (And.intro hgb (And.intro hbb (And.intro hN (And.intro hS (And.intro hb3 hb4)))))))))))))
      clear hrow hbt hsk hxw hok htw hbel hxo hgb hbb HR hb3 hb4 hbt2 hlen
      rw [← hN]
      clear hN hS
      go_wp2_with (first
        | (go_at_call 163; refine (line_write B out v2 xs2 g o _ S b _ HB.out.2.2.1 hxl (Nat.le_trans hB HB.out.2.2.2.2.2.2.1.size) HB.out.2.1 HB.out.2.2.2.2.2.2.2.2.2.1 HB.out.2.2.2.2.2.2.2.2.2.2.2.1 hS2).mono ?_; rintro e w3 ⟨rfl, v3, hs3, hk3, hb3⟩; have H3 := Lib.hid (And.intro hs3 (And.intro hk3 hb3)); clear hs3 hk3 hb3)
        | (go_at_call 80; refine (idx_line HB.out.2.2.2.2.2.2.2.1 g o c N S b _ HB.out.2.2.2.2.2.2.2.2.2.2.1 HB.out.2.2.2.2.2.2.2.2.2.2.2.1 HB.out.2.1 HB.out.2.2.2.2.2.2.2.2.2.1).mono ?_; rintro e w2 ⟨rfl, rfl⟩))
      refine ⟨⟨ws3, ⟨(wb ws3).toArray⟩, _, _, _, v3, by rw [HB.out.2.2.2.2.2.2.2.2.2.2.2.2.1], ⟨?_, fun hp => ?_⟩, by simp, H3.out.1, ?_, fun y hy => HB.out.2.2.2.2.1 y (List.mem_cons_of_mem _ hy), HB.out.2.2.2.2.2.1.kept H3.out.2.1, HB.out.2.2.2.2.2.2.1.trans H3.out.2.2, HKU.out.trans (KU.of H3.out.2.1)⟩, by simp [slLen]; omega⟩
      · rw [← HB.out.2.2.2.2.2.2.2.2.2.2.2.2.1]
        omega
      · rw [← HB.out.2.2.2.2.2.2.2.2.2.2.2.2.1] at hp
        have hk := H3.out.2.1 _ _ _ _ HB.out.2.2.2.2.2.2.2.2.1 (by decide) (by decide)
        exact ⟨g, o + (S + 1), cs, fz, if_neg (by omega), hk, bytes_keep HB.out.2.2.2.2.2.2.2.2.2.2.2.2.2 (hk.trans HB.out.2.2.2.2.2.2.2.2.1.symm)⟩
      · rw [← HB.out.2.2.2.1]
        simp
end Go.Proofs.YtdbnconphcaclaaDoor
