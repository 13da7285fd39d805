/-
  zerolog's TriggerLevelWriter over impl's lines: WriteLevel, Trigger, Close. Conditions: as each theorem says.
-/
import Derived.Test.YtdbnconphcaclaaDoorTrig
import Derived.Test.YtdbnconphcaclaaDoorBufX
namespace Go.Proofs.YtdbnconphcaclaaDoor
open Go.RowKit
set_option linter.unusedVariables false

/-- Blocks that are neither a buffer nor a row of bytes stay. -/
def KeptB (w w' : World) : Prop := ∀ (g : Nat) (T : TypeId) (cs : Array Value) (fz : Nat × Nat), w.heap[g]? = some (Obj.cells cs T fz) → T ≠ 145 → T ≠ 5 → w'.heap[g]? = some (Obj.cells cs T fz)
theorem KeptB.trans {a b c : World} (h : KeptB a b) (k : KeptB b c) : KeptB a c := fun g T cs fz hb h1 h2 => k g T cs fz (h g T cs fz hb h1 h2) h1 h2
theorem KeptB.below {w w' : World} (h : Below w.heap.size w w') : KeptB w w' := fun g T cs fz hb _ _ => (h.block g (lt_of_obj hb)).trans hb
theorem KeptB.of {w w' : World} {b g k cap : Nat} {l : List UInt8} (h : Res w b g cap k l) (hs : StayB b g w w') : KeptB w w' := by
  obtain ⟨lr, cur, hb, hg, -⟩ := h
  intro i T cs fz hi h1 h2
  refine (hs.2.2.2.2 i (lt_of_obj hi) ?_ ?_).trans hi
  · rintro rfl
    unfold Blk at hb
    rw [hb] at hi
    injection hi with hi
    injection hi with _ e
    exact h1 e.symm
  · rintro rfl
    unfold Blk at hg
    rw [hg] at hi
    injection hi with hi
    injection hi with _ e
    exact h2 e.symm
theorem Sink.keptB {w w' : World} {B b : Nat} {v : Value} {xs : List ByteArray} (h : Sink w B b v xs) (k : KeptB w w') : Sink w' B b v xs := by
  obtain ⟨h1, ⟨hl, h | ⟨g, cap, cur, rfl, hb, hh, hr⟩⟩, h3⟩ := h
  · exact ⟨k _ _ _ _ h1 (by decide) (by decide), ⟨hl, .inl h⟩, h3⟩
  · exact ⟨k _ _ _ _ h1 (by decide) (by decide), ⟨hl, .inr ⟨g, cap, cur, rfl, hb, k g _ cur _ hh (by decide) (by decide), hr⟩⟩, h3⟩
theorem TW.keptB {w w' : World} {t out : Nat} {cond trig : Int} {buf : Value} {tr : Bool} (h : TW w t out cond trig buf tr) (k : KeptB w w') : TW w' t out cond trig buf tr := k _ _ _ _ h (by decide) (by decide)
theorem StayB.below {w w' : World} {b g B : Nat} (h : StayB b g w w') (hb : B ≤ b) (hg : B ≤ g) (hB : B ≤ w.heap.size) : Below B w w' := ⟨h.1, h.2.1, h.2.2.1, h.2.2.2.1, fun i hi => h.2.2.2.2 i (by omega) (by omega) (by omega)⟩
theorem Res.isBuffer {w : World} {b g cap B : Nat} {l : List UInt8} (h : Res w b g cap l.length l) (hb : B ≤ b) (hg : B ≤ g) : Lib.IsBuffer 145 5 B b (bytesV l) w := by
  obtain ⟨lr, cur, h1, h2, a1, a2, a3, a4, a5, a6⟩ := h
  have hne : b ≠ g := Blk.ne_ h1 h2 (by decide)
  refine ⟨hb, _, lr, h1, ⟨by simp, .inr ⟨g, cap, cur, by rw [bytesV_length], hg, h2, by rw [bytesV_length]; exact a1, a4, by rw [a5, Nat.mul_one], by rw [bytesV_length, Nat.mul_one]; exact a6⟩⟩, ?_⟩
  simp [Value.ownBlock]
  omega
/-- The buffer of the lines that wait; its row lies below M. -/
def BufS (w : World) (B M : Nat) (buf : Value) (ws : List (Int × ByteArray)) : Prop := (buf = .pointer none ∧ ws = []) ∨ ∃ bb g cap, buf = .pointer (some ⟨bb, 0, none⟩) ∧ B ≤ bb ∧ B ≤ g ∧ g < M ∧ Res w bb g cap (wb ws).length (wb ws)
theorem Res.kept {w w' : World} {b g k cap : Nat} {l : List UInt8} (h : Res w b g cap k l) (hk : KeptT w w') : Res w' b g cap k l := by
  obtain ⟨lr, cur, h1, h2, r⟩ := h
  exact ⟨lr, cur, hk _ _ _ _ h1 (by decide) (by decide), hk _ _ _ _ h2 (by decide) (by decide), r⟩
theorem Res.lt {w : World} {b g k cap : Nat} {l : List UInt8} (h : Res w b g cap k l) : g < w.heap.size := by
  obtain ⟨lr, cur, h1, h2, r⟩ := h
  exact h2.lt
theorem BufS.kept {w w' : World} {B M : Nat} {buf : Value} {ws : List (Int × ByteArray)} (h : BufS w B M buf ws) (hk : KeptT w w') : BufS w' B M buf ws := by
  rcases h with h | ⟨bb, g, cap, h1, h2, h3, h4, h5⟩
  · exact .inl h
  · exact .inr ⟨bb, g, cap, h1, h2, h3, h4, h5.kept hk⟩
def OkLines (ws : List (Int × ByteArray)) : Prop := ∀ x ∈ ws, WOk x
theorem wb_len : ∀ (ws : List (Int × ByteArray)), OkLines ws → (wb ws).length ≤ 101 * ws.length
  | [], _ => by simp [wb]
  | x :: ws, h => by
    have ih := wb_len ws (fun y hy => h y (List.mem_cons_of_mem _ hy))
    have := (h x (List.mem_cons_self ..)).2.2.2.1
    rw [wb, List.flatMap_cons, List.length_append, List.length_cons, ← size_list]
    unfold wb at ih
    simp only [List.length_cons]
    omega

/-- THE WRITER: o: open; ys came out; ws wait. -/
def St (w : World) (B M t out : Nat) (cond trig : Int) (o : Bool) (ys : List ByteArray) (ws : List (Int × ByteArray)) : Prop :=
  ∃ v buf, TW w t out cond trig buf o ∧ Sink w B out v ys ∧ B ≤ t ∧ OkLines ws ∧ (o = false → BufS w B M buf ws) ∧ (o = true → ws = [] ∧ (buf = .pointer none ∨ ∃ bb, buf = .pointer (some ⟨bb, 0, none⟩)))

theorem trigger_st (B M t out : Nat) (cond trig : Int) (ys : List ByteArray) (ws : List (Int × ByteArray)) (w : World) (h : St w B M t out cond trig false ys ws) (hx : ys.length + ws.length ≤ 900) (hB : B ≤ w.heap.size) (M' : Nat) :
    Calls Tryd.prog 62 #[.pointer (some ⟨t, 0, none⟩)] w fun e w' => e = .returned .nilIface ∧ St w' B M' t out cond trig true (ys ++ ws.map (·.2)) [] ∧ Below B w w' ∧ KU w w' := by
  obtain ⟨v, buf, ht, hs, htb, hok, hb, -⟩ := h
  rcases hb rfl with ⟨rfl, rfl⟩ | ⟨bb, g, cap, rfl, h1, h2, h3, h4⟩
  · refine (trigger_none B t out cond trig w ht).mono ?_
    rintro e w' ⟨rfl, rfl⟩
    refine ⟨rfl, ⟨v, .pointer none, TW.flag ht, by simpa using sink_far hs ht (by decide) (by decide), htb, hok, (fun h => by cases h), fun _ => ⟨rfl, .inl rfl⟩⟩, (Below.refl B w).setCell htb _, ?_⟩
    exact KU.flag (n := 0) ht (by decide)
  · refine (trigger_buf B t out bb cond trig v ys ws w ht hs (h4.isBuffer h1 h2) hok hx hB htb).mono ?_
    rintro e w' ⟨rfl, ⟨v', hv'⟩, ht', hbel, hku⟩
    exact ⟨rfl, ⟨v', _, ht', hv', htb, (fun x hx => by cases hx), (fun h => by cases h), fun _ => ⟨rfl, .inr ⟨bb, rfl⟩⟩⟩, hbel, hku⟩
set_option maxRecDepth 100000 in
theorem trigger_open (t out : Nat) (cond trig : Int) (buf : Value) (w : World) (ht : TW w t out cond trig buf true) :
    Calls Tryd.prog 62 #[.pointer (some ⟨t, 0, none⟩)] w fun e w' => e = .returned .nilIface ∧ w' = w := by
  have c4 := ht.cell 4
  simp at c4
  clear ht
  go_enter Tryd.func62, Tryd.ntmps62
  go_wp2
  go_ret
  exact ⟨rfl, rfl⟩
def isErr (e : Ending) : Prop := e = .returned .nilIface
set_option maxRecDepth 100000 in
theorem trigger_any (B M t out : Nat) (cond trig : Int) (o : Bool) (ys : List ByteArray) (ws : List (Int × ByteArray)) (w : World) (h : St w B M t out cond trig o ys ws) (hx : ys.length + ws.length ≤ 900) (hB : B ≤ w.heap.size) (M' : Nat) :
    Calls Tryd.prog 43 #[.pointer (some ⟨t, 0, none⟩)] w fun e w' => e = .returned .nilIface ∧ St w' B M' t out cond trig true (ys ++ ws.map (·.2)) [] ∧ Below B w w' := by
  have H := Lib.hid h
  clear h
  go_enter Tryd.func43, Tryd.ntmps43
  cases o
  · go_wp2_with (go_at_call 62; refine (trigger_st B M t out cond trig ys ws _ H.out hx hB M').mono ?_; rintro e w1 ⟨rfl, h1, h2, h3⟩; have H1 := Lib.hid (And.intro h1 h2); clear h1 h2 h3)
    go_ret
    exact ⟨rfl, H1.out⟩
  · obtain ⟨v, buf, ht, hs, htb, hok, -, hbo⟩ := H.out
    have H2 := Lib.hid ht
    clear ht
    go_wp2_with (go_at_call 62; refine (trigger_open t out cond trig buf _ H2.out).mono ?_; rintro e w1 ⟨rfl, hw⟩; have hw2 := hw.symm; subst hw2; clear hw)
    go_ret
    obtain ⟨rfl, hp⟩ := hbo (by trivial)
    exact ⟨rfl, ⟨v, buf, H2.out, by simpa using hs, htb, hok, (fun h => by cases h), fun _ => ⟨rfl, hp⟩⟩, Below.refl _ _⟩
theorem sink_write (B out : Nat) (v : Value) (ys : List ByteArray) (s : ByteArray) (P : Option Addr) (n c : Nat) (w : World) (hs : Sink w B out v ys) (hx : ys.length ≤ 1000) (hB : B ≤ w.heap.size) (hp : PB w P n s) (hn : n ≤ 1000) :
    Calls Tryd.prog 163 #[.pointer (some ⟨out, 0, none⟩), .slice P n c] w fun e w' => e = .returned (.tuple #[.int .i64 n, .nilIface]) ∧ (∃ v', Sink w' B out v' (ys ++ [s])) ∧ KeptT w w' ∧ Below B w w' := by
  refine (write_sink B out v ys s P n c w hs hx hB (hp.drew.conv c) hn).mono ?_
  rintro e w' ⟨rfl, v', h1, h2, -⟩
  exact ⟨rfl, ⟨v', h1⟩, KeptT.of hs h2, kept_below hs hB h2⟩
def PassPost (B t out : Nat) (cond trig : Int) (buf : Value) (o : Bool) (ys : List ByteArray) (n : Nat) (w : World) (e : Ending) (w' : World) : Prop := e = .returned (.tuple #[.int .i64 n, .nilIface]) ∧ (∃ v', Sink w' B out v' ys) ∧ TW w' t out cond trig buf o ∧ KeptT w w' ∧ Below B w w'
set_option maxRecDepth 100000 in
theorem wl_open (B t out : Nat) (cond trig l : Int) (buf v : Value) (ys : List ByteArray) (s : ByteArray) (P : Option Addr) (n c : Nat) (w : World) (ht : TW w t out cond trig buf true) (hs : Sink w B out v ys) (hx : ys.length ≤ 1000) (hB : B ≤ w.heap.size) (hp : PB w P n s) (hn : n ≤ 1000) :
    Calls Tryd.prog 46 #[.pointer (some ⟨t, 0, none⟩), .int .i8 l, .slice P n c] w (PassPost B t out cond trig buf true (ys ++ [s]) n w) := by
  have c0 := ht.cell 0
  have c1 := ht.cell 1
  have c2 := ht.cell 2
  have c4 := ht.cell 4
  simp at c0 c1 c2 c4
  have has := assert_lines ⟨out, 0, none⟩
  have hm := method_write ⟨out, 0, none⟩
  have H := Lib.hid (And.intro ht (And.intro hs hp))
  clear ht hs hp
  go_enter Tryd.func46, Tryd.ntmps46
  go_wp2_with (go_at_call 163; refine (sink_write B out v ys s P n c _ H.out.2.1 hx hB H.out.2.2 hn).mono ?_; rintro e w1 ⟨rfl, h1, h2, h3⟩; have H1 := Lib.hid (And.intro h1 (And.intro h2 h3)); clear h1 h2 h3)
  go_ret2
  exact ⟨rfl, H1.out.1, H.out.1.kept H1.out.2.1, H1.out.2.1, H1.out.2.2⟩
set_option maxRecDepth 100000 in
theorem wl_pass (B t out : Nat) (cond trig l : Int) (buf v : Value) (ys : List ByteArray) (s : ByteArray) (P : Option Addr) (n c : Nat) (w : World) (ht : TW w t out cond trig buf false) (h1 : l < trig) (h2 : cond < l) (hs : Sink w B out v ys) (hx : ys.length ≤ 1000) (hB : B ≤ w.heap.size) (hp : PB w P n s) (hn : n ≤ 1000) :
    Calls Tryd.prog 46 #[.pointer (some ⟨t, 0, none⟩), .int .i8 l, .slice P n c] w (PassPost B t out cond trig buf false (ys ++ [s]) n w) := by
  have c0 := ht.cell 0
  have c1 := ht.cell 1
  have c2 := ht.cell 2
  have c4 := ht.cell 4
  simp at c0 c1 c2 c4
  have has := assert_lines ⟨out, 0, none⟩
  have hm := method_write ⟨out, 0, none⟩
  have H := Lib.hid (And.intro ht (And.intro hs hp))
  clear ht hs hp
  go_enter Tryd.func46, Tryd.ntmps46
  go_wp2_with (go_at_call 163; refine (sink_write B out v ys s P n c _ H.out.2.1 hx hB H.out.2.2 hn).mono ?_; rintro e w1 ⟨rfl, h1, h2, h3⟩; have H1 := Lib.hid (And.intro h1 (And.intro h2 h3)); clear h1 h2 h3)
  go_ret2
  exact ⟨rfl, H1.out.1, H.out.1.kept H1.out.2.1, H1.out.2.1, H1.out.2.2⟩
set_option maxRecDepth 100000 in
theorem wl_trig (B M t out : Nat) (cond trig l : Int) (ys : List ByteArray) (ws : List (Int × ByteArray)) (s : ByteArray) (P : Option Addr) (n c : Nat) (w : World) (h : St w B M t out cond trig false ys ws) (hl : trig ≤ l) (hx : ys.length + ws.length ≤ 900) (hB : B ≤ w.heap.size) (hp : PB w P n s) (hn : n ≤ 1000) (M' : Nat) :
    Calls Tryd.prog 46 #[.pointer (some ⟨t, 0, none⟩), .int .i8 l, .slice P n c] w fun e w' => e = .returned (.tuple #[.int .i64 n, .nilIface]) ∧ St w' B M' t out cond trig true (ys ++ ws.map (·.2) ++ [s]) [] ∧ Below B w w' := by
  obtain ⟨v, buf, ht, -⟩ := id h
  have c2 := ht.cell 2
  have c4 := ht.cell 4
  simp at c2 c4
  have has := assert_lines ⟨out, 0, none⟩
  have hm := method_write ⟨out, 0, none⟩
  have H := Lib.hid (And.intro h hp)
  clear ht h hp
  go_enter Tryd.func46, Tryd.ntmps46
  go_wp2_with (first
    | (go_at_call 163; have _ := hone; refine (sink_write B out v1 (ys ++ ws.map (·.2)) s P n c _ H1.out.2.1 (by simp; omega) (Nat.le_trans hB H1.out.2.2.2.1.size) (H1.out.2.2.2.2.pb H.out.2) hn).mono ?_; rintro e w2 ⟨rfl, h1, h2, h3⟩; have H2 := Lib.hid (And.intro h1 (And.intro h2 h3)); clear h1 h2 h3)
    | (go_at_call 62; refine (trigger_st B M t out cond trig ys ws _ H.out.1 hx hB M').mono ?_; rintro e w1 ⟨rfl, ⟨v1, buf1, q1, q2, q3, q4, q5, q6⟩, h2, h3⟩; have e0 := q1.cell 0; have e1 := q1.cell 1; have e4 := q1.cell 4; simp at e0 e1 e4; have hone : 0 = 0 := rfl; have H1 := Lib.hid (And.intro q1 (And.intro q2 (And.intro (And.intro q3 (And.intro q4 (And.intro q5 q6))) (And.intro h2 h3)))); clear q1 q2 q4 q5 q6 h2 h3))
  go_ret2
  obtain ⟨v2, hv2⟩ := H2.out.1
  exact ⟨rfl, ⟨v2, buf1, H1.out.1.kept H2.out.2.1, hv2, H1.out.2.2.1.1, H1.out.2.2.1.2.1, (fun h => by cases h), fun _ => ⟨rfl, (H1.out.2.2.1.2.2.2 trivial).2⟩⟩, H1.out.2.2.2.1.trans H2.out.2.2⟩
theorem wbyte_c (b g cap : Nat) (l : List UInt8) (x : UInt8) (c : Int) (w : World) (hc : c = x.toNat) (h : Res w b g cap l.length l) (hl : l.length ≤ 100000) :
    Calls Tryd.prog 65 #[.pointer (some ⟨b, 0, none⟩), .int .u8 c] w fun e w' => e = .returned .nilIface ∧ WroteB b g l [x] w w' := by
  subst hc
  exact wbyte_x b g cap l x w h hl
theorem PB.stay {w w' : World} {b g : Nat} {P : Option Addr} {n : Nat} {s : ByteArray} {T : TypeId} {cs : Array Value} (h : PB w P n s) (hb : Blk w b T cs) (hT : T ≠ 5) (hg : ∀ a, P = some a → a.block ≠ g) (hs : StayB b g w w') : PB w' P n s := by
  obtain ⟨gp, cp, fz, rfl, h2, h3, h4⟩ := h
  refine ⟨gp, cp, fz, rfl, h2, (hs.2.2.2.2 gp (lt_of_obj h3) ?_ (hg _ rfl)).trans h3, h4⟩
  rintro rfl
  unfold Blk at hb
  rw [hb] at h3
  injection h3 with h3
  injection h3 with _ e
  exact hT e
theorem wb_snoc (ws : List (Int × ByteArray)) (l : Int) (s : ByteArray) : wb (ws ++ [(l, s)]) = wb ws ++ [lb l] ++ s.data.toList := by simp [wb]
theorem u8_lb {l : Int} (h0 : -1 ≤ l) (h1 : l ≤ 7) : IntKind.u8.wrap l = (lb l).toNat := by
  have : l = -1 ∨ l = 0 ∨ l = 1 ∨ l = 2 ∨ l = 3 ∨ l = 4 ∨ l = 5 ∨ l = 6 ∨ l = 7 := by omega
  rcases this with rfl | rfl | rfl | rfl | rfl | rfl | rfl | rfl | rfl <;> decide
/-- What a write into the buffer leaves of the writer. -/
def BufPost (B t out : Nat) (cond trig : Int) (ys : List ByteArray) (ws : List (Int × ByteArray)) (n : Nat) (w : World) (e : Ending) (w' : World) : Prop := e = .returned (.tuple #[.int .i64 n, .nilIface]) ∧ St w' B w'.heap.size t out cond trig false ys ws ∧ Below B w w'
set_option maxRecDepth 100000 in
theorem wl_buf (B M t out bb g cap : Nat) (cond trig l : Int) (v : Value) (ys : List ByteArray) (ws : List (Int × ByteArray)) (s : ByteArray) (P : Option Addr) (n c : Nat) (w : World) (ht : TW w t out cond trig (.pointer (some ⟨bb, 0, none⟩)) false) (hr : Res w bb g cap (wb ws).length (wb ws)) (hbb : B ≤ bb) (hgB : B ≤ g) (hgM : g < M) (h1 : l < trig) (h2 : l ≤ cond) (hs : Sink w B out v ys) (htb : B ≤ t) (hok : OkLines ws) (hlen : ws.length ≤ 900) (hx : WOk (l, s)) (hB : B ≤ w.heap.size) (hp : PB w P n s) (hP : ∀ a, P = some a → M ≤ a.block) :
    Calls Tryd.prog 46 #[.pointer (some ⟨t, 0, none⟩), .int .i8 l, .slice P n c] w (BufPost B t out cond trig ys (ws ++ [(l, s)]) n w) := by
  have c1 := ht.cell 1
  have c2 := ht.cell 2
  have c3 := ht.cell 3
  have c4 := ht.cell 4
  simp at c1 c2 c3 c4
  have hwl := u8_lb hx.1 hx.2.1
  have hwb : (wb ws).length ≤ 90900 := Nat.le_trans (wb_len ws hok) (by omega)
  have hn : n = s.size := by obtain ⟨_, _, _, _, e, _⟩ := hp; exact e
  subst hn
  have hn0 : 1 ≤ s.size := hx.2.2.1
  have hn1 : s.size ≤ 100 := hx.2.2.2.1
  have hPg : ∀ a, P = some a → a.block ≠ g := fun a ha e => by have := hP a ha; omega
  have H := Lib.hid (And.intro ht (And.intro hr (And.intro hs (And.intro hp (And.intro hok hx)))))
  obtain ⟨lr, cur, hbk, hbg, -⟩ := hr
  have HBK := Lib.hid hbk
  clear ht hs hp hok hbk hbg hx
  go_enter Tryd.func46, Tryd.ntmps46
  go_wp2_with (first
    | (go_at_call 66; refine (write_x bb g1 cap1 s.size c (wb ws ++ [lb l]) s P _ H1.out.1 (by simp; omega) (by simp) H1.out.2.2.2.2.1 hn0 hn1).mono ?_; rintro e w2 ⟨rfl, hw2⟩; have H2 := Lib.hid hw2; clear hw2)
    | (go_at_call 65; refine (wbyte_x bb g cap (wb ws) (lb l) _ H.out.2.1 (by omega)).mono ?_; rintro e w1 ⟨rfl, g1, cap1, q1, q2, q3⟩; have hk1 := KeptB.of H.out.2.1 q3; have hp1 := H.out.2.2.2.1.stay HBK.out (by decide) hPg q3; have ht1 := H.out.1.keptB hk1; have e3 := ht1.cell 3; simp at e3; have H1 := Lib.hid (And.intro q1 (And.intro q2 (And.intro q3 (And.intro hk1 (And.intro hp1 ht1))))); clear q1 q2 q3 hk1 hp1 ht1))
  go_ret2
  obtain ⟨g3, cap3, r1, r2, r3⟩ := H2.out
  have hk2 := KeptB.of H1.out.1 r3
  have hg1 : B ≤ g1 := by rcases H1.out.2.1 with h | h <;> omega
  have hs1 := H1.out.2.2.1.2.2.2.1
  have hs2 := r3.2.2.2.1
  have hg3 : B ≤ g3 := by rcases r2 with h | h <;> omega
  refine ⟨rfl, ⟨v, _, H1.out.2.2.2.2.2.keptB hk2, (H.out.2.2.1.keptB H1.out.2.2.2.1).keptB hk2, htb, ?_, fun _ => .inr ⟨bb, g3, cap3, rfl, hbb, hg3, r1.lt, ?_⟩, fun h => by cases h⟩, (H1.out.2.2.1.below hbb hgB hB).trans (r3.below hbb hg1 (by omega))⟩
  · intro x hx
    rcases List.mem_append.1 hx with h | h
    · exact H.out.2.2.2.2.1 x h
    · obtain rfl := List.mem_singleton.1 h
      exact H.out.2.2.2.2.2
  · rw [wb_snoc]
    exact r1
end Go.Proofs.YtdbnconphcaclaaDoor
