/-
  bytes.Buffer's WriteByte and Write, with the row's place told. Conditions: as each theorem says.
-/
import Derived.Test.YtdbnconphcaclaaDoorGrow
namespace Go.Proofs.YtdbnconphcaclaaDoor
open Go.RowKit
set_option linter.unusedVariables false

def StayB (b g : Nat) (w w' : World) : Prop := w'.os = w.os ∧ w'.tape = w.tape ∧ w'.output = w.output ∧ w.heap.size ≤ w'.heap.size ∧ ∀ i, i < w.heap.size → i ≠ b → i ≠ g → w'.heap[i]? = w.heap[i]?
/-- What a write of cs leaves. -/
def WroteB (b g : Nat) (l cs : List UInt8) (w w' : World) : Prop := ∃ g2 cap2, Res w' b g2 cap2 (l ++ cs).length (l ++ cs) ∧ (g2 = g ∨ w.heap.size ≤ g2) ∧ StayB b g w w'
theorem res_done {w w1 w2 : World} {b g g2 cap2 n : Nat} {l cs : List UInt8} {cur : Array Value} (hn : n = cs.length) (hres : Res w1 b g2 cap2 (l.length + n) l) (hgrow : w.grownBy w1 (some b)) (hr : g2 = g ∨ w.heap.size ≤ g2) (h2 : Blk w2 g2 5 cur) (hsz : cur.size = cap2) (htk : cur.toList.take (l.length + n) = bytesV l ++ bytesV cs) (hoth : ∀ i, i ≠ g2 → w2.heap[i]? = w1.heap[i]?) (hos : w2.os = w1.os) (htp : w2.tape = w1.tape) (hou : w2.output = w1.output) (hs : w2.heap.size = w1.heap.size) : WroteB b g l cs w w2 := by
  subst hn
  obtain ⟨lr, cur1, hb, hg, a1, a2, a3, a4, a5, a6⟩ := hres
  have hne : b ≠ g2 := Blk.ne_ hb hg (by decide)
  refine ⟨g2, cap2, ⟨lr, cur, ?_, h2, by simpa using a1, Nat.le_refl _, a3, a4, hsz, by rw [List.length_append, htk, bytesV_append]⟩, hr, ⟨hos.trans hgrow.os, htp.trans hgrow.tape, hou.trans hgrow.output, by rw [hs]; exact hgrow.size, fun i hi hib hig => ?_⟩⟩
  · rw [List.length_append]
    exact (hoth b hne).trans hb
  · exact (hoth i (by rintro rfl; rcases hr with h | h <;> omega)).trans (hgrow.block i hi (by simpa using hib))
theorem res_poke {w w1 : World} {b g g2 cap2 : Nat} {l : List UInt8} (x : UInt8) (hres : Res w1 b g2 cap2 (l.length + 1) l) (hgrow : w.grownBy w1 (some b)) (hr : g2 = g ∨ w.heap.size ≤ g2) : WroteB b g l [x] w (w1.setCell ⟨g2, l.length, none⟩ (.int .u8 x.toNat)) := by
  have hres' := hres
  obtain ⟨lr, cur1, hb, hg, a1, a2, a3, a4, a5, a6⟩ := hres
  refine res_done (cs := [x]) (n := 1) rfl hres' hgrow hr (hg.set_ l.length (.int .u8 x.toNat)) (by simpa using a5) ?_ (fun i hi => Below.heap_setCell w1 ⟨g2, l.length, none⟩ _ i hi) rfl rfl rfl (by simp [World.setCell])
  rw [Array.toList_setIfInBounds, List.set_eq_take_append_cons_drop, if_pos (by simp; omega), a6]
  rw [show bytesV l ++ Value.int .u8 x.toNat :: cur1.toList.drop (l.length + 1) = (bytesV l ++ bytesV [x]) ++ cur1.toList.drop (l.length + 1) by simp [bytesV]]
  exact List.take_left' (by simp [bytesV_length])
theorem res_copy {w w1 : World} {b g g2 cap2 : Nat} {l : List UInt8} (cs : List UInt8) {cur : Array Value} (hres : Res w1 b g2 cap2 (l.length + cs.length) l) (hcur : Blk w1 g2 5 cur) (hgrow : w.grownBy w1 (some b)) (hr : g2 = g ∨ w.heap.size ≤ g2) : WroteB b g l cs w (w1.setRow g2 (cur.toList.take l.length ++ (bytesV cs ++ cur.toList.drop (l.length + cs.length))).toArray) := by
  rw [← List.append_assoc]
  have hres' := hres
  obtain ⟨lr, cur1, hb, hg, a1, a2, a3, a4, a5, a6⟩ := hres
  obtain rfl : cur = cur1 := by
    unfold Blk at hcur hg
    rw [hcur] at hg
    injection hg with hg
    injection hg
  refine res_done (cs := cs) (n := cs.length) rfl hres' hgrow hr (setRow_heap w1 g2 cur _ _ _ hg) ?_ ?_ (fun i hi => setRow_other w1 g2 i _ hi) rfl rfl rfl (by simp)
  · simp [bytesV_length]
    omega
  · rw [a6]
    exact List.take_left' (by simp [bytesV_length])
theorem res_last {w : World} {b g cap k : Nat} {l : List UInt8} (h : Res w b g cap k l) : Res (w.setCell ⟨b, 2, none⟩ (.int .i8 0)) b g cap k l := by
  obtain ⟨lr, cur1, hb, hg, r⟩ := h
  have hne : b ≠ g := Blk.ne_ hb hg (by decide)
  refine ⟨0, cur1, by simpa using hb.set_ 2 (.int .i8 0), hg.far (p := ⟨b, 2, none⟩) (by simp; omega) _, r⟩
theorem res_room {w : World} {b g cap k n : Nat} {l : List UInt8} (h : Res w b g cap k l) (hr : k + n ≤ cap) : Res (w.setCell ⟨b, 0, none⟩ (.slice (some ⟨g, 0, none⟩) (k + n) cap)) b g cap (k + n) l := by
  obtain ⟨lr, cur1, hb, hg, a1, a2, r⟩ := h
  have hne : b ≠ g := Blk.ne_ hb hg (by decide)
  refine ⟨lr, cur1, by simpa using hb.set_ 0 (.slice (some ⟨g, 0, none⟩) (k + n) cap), hg.far (p := ⟨b, 0, none⟩) (by simp; omega) _, hr, by omega, r⟩
/-- The buffer after room was made: world w1, out of w with the last read forgotten. -/
def Made1 (w w1 : World) (b g k n : Nat) (l : List UInt8) : Prop := ∃ g2 cap2, Res w1 b g2 cap2 (k + n) l ∧ (g2 = g ∨ w.heap.size ≤ g2) ∧ w.grownBy w1 (some b)
theorem made_room {w : World} {b g cap n : Nat} {l : List UInt8} (h : Res w b g cap l.length l) (hr : l.length + n ≤ cap) : Made1 w ((w.setCell ⟨b, 2, none⟩ (.int .i8 0)).setCell ⟨b, 0, none⟩ (.slice (some ⟨g, 0, none⟩) (l.length + n) cap)) b g l.length n l :=
  ⟨g, cap, res_room (res_last h) hr, .inl rfl, only_setCell (only_setCell (World.grownBy.refl w (some b)) (.inl rfl) _) (.inl rfl) _⟩
theorem made_grow {w w1 : World} {b g cap2 n : Nat} {l : List UInt8} (h : Res w1 b (w.setCell ⟨b, 2, none⟩ (.int .i8 0)).heap.size cap2 (l.length + n) l) (hg : (w.setCell ⟨b, 2, none⟩ (.int .i8 0)).grownBy w1 (some b)) : Made1 w w1 b g l.length n l :=
  ⟨_, cap2, h, .inr (by simp [World.setCell]), grown_g (only_setCell (World.grownBy.refl w (some b)) (.inl rfl) _) hg⟩

theorem grow_k (b g cap n k : Nat) (l : List UInt8) (w : World) (hk : k = l.length) (h : Res w b g cap l.length l) (hl0 : 1 ≤ k) (hl : k ≤ 100000) (hn : 1 ≤ n) (hn2 : n ≤ 1000) (hroom : cap - k < n) :
    Calls Tryd.prog 83 #[.pointer (some ⟨b, 0, none⟩), .int .i64 n] w fun e w' => e = .returned (.int .i64 k) ∧ ∃ cap2, Res w' b w.heap.size cap2 (l.length + n) l ∧ w.grownBy w' (some b) := by
  subst hk
  exact grow_x b g cap n l w h hl0 hl hn hn2 hroom

set_option maxRecDepth 100000 in
set_option maxHeartbeats 1000000 in
theorem wbyte_x (b g cap : Nat) (l : List UInt8) (x : UInt8) (w : World) (h : Res w b g cap l.length l) (hl : l.length ≤ 100000) :
    Calls Tryd.prog 65 #[.pointer (some ⟨b, 0, none⟩), .int .u8 x.toNat] w fun e w' => e = .returned .nilIface ∧ WroteB b g l [x] w w' := by
  obtain ⟨lr, cur, hb, hg, a1, -, a3, a4, a5, a6⟩ := id h
  have c2 := hb.cell 2
  have f2 := hb.frozen 2
  simp at c2
  have h0 := res_last h
  obtain ⟨lr0, cur0, hb0, hg0, -⟩ := id h0
  have c0 := hb0.cell 0
  have f0 := hb0.frozen 0
  simp at c0
  have H := Lib.hid (And.intro h (And.intro h0 (And.intro hb0 hg0)))
  clear h h0 hb hg hb0 hg0 a6 a5
  obtain ⟨k, hk⟩ : ∃ k, k = l.length := ⟨_, rfl⟩
  rw [← hk] at a1 hl c0
  have HK := Lib.hid hk
  clear hk
  by_cases hr : k + 1 ≤ cap
  · go_enter Tryd.func65, Tryd.ntmps65
    go_wp2_with (go_at_call 82; refine (tg_room b k cap 1 _ _ c0 f0 a1 a4 (by omega)).mono ?_; rintro e w1 ⟨rfl, hw1⟩; obtain ⟨g2, cap2, r1, r2, r3⟩ : Made1 w w1 b g l.length 1 l := (by rw [hw1, HK.out]; exact made_room H.out.1 (by rw [← HK.out]; exact hr)); clear hw1; rw [← HK.out] at r1; have R := Lib.hid (And.intro r1 (And.intro r2 r3)); obtain ⟨lr2, cur2, q1, q2, q3, -, q4, q5, q6, -⟩ := r1; have d0 := q1.cell 0; simp at d0; have dg := q2.cell k; have hkc : k < cur2.size := (by omega); rw [Array.getElem?_eq_getElem hkc] at dg; have fg := q2.frozen k; have hcm := q5; unfold maxLen at hcm; clear r2 r3 q1 q2 q5)
    go_ret
    refine ⟨rfl, ?_⟩
    have := res_poke x (HK.out ▸ R.out.1) R.out.2.2 R.out.2.1
    rw [HK.out]
    exact this
  · go_enter Tryd.func65, Tryd.ntmps65
    go_wp2_with (first
      | (go_at_call 82; refine (tg_none b k cap 1 _ _ c0 a1 a4 (by omega)).mono ?_; rintro e w1 ⟨rfl, rfl⟩)
      | (go_at_call 83; refine (grow_k b g cap 1 k l _ HK.out H.out.2.1 (by omega) hl (Nat.le_refl 1) (by omega) (by omega)).mono ?_; rintro e w1 ⟨rfl, cap9, r9, rg9⟩; obtain ⟨g2, cap2, r1, r2, r3⟩ : Made1 w w1 b g l.length 1 l := made_grow r9 rg9; clear r9 rg9; rw [← HK.out] at r1; have R := Lib.hid (And.intro r1 (And.intro r2 r3)); obtain ⟨lr2, cur2, q1, q2, q3, -, q4, q5, q6, -⟩ := r1; have d0 := q1.cell 0; simp at d0; have dg := q2.cell k; have hkc : k < cur2.size := (by omega); rw [Array.getElem?_eq_getElem hkc] at dg; have fg := q2.frozen k; have hcm := q5; unfold maxLen at hcm; clear r2 r3 q1 q2 q5))
    go_ret
    refine ⟨rfl, ?_⟩
    have := res_poke x (HK.out ▸ R.out.1) R.out.2.2 R.out.2.1
    rw [HK.out]
    exact this
/-- The cells of a text in a block of its own. -/
theorem pb_cells {w : World} {P : Option Addr} {n : Nat} {s : ByteArray} (h : PB w P n s) : ∃ gp, P = some ⟨gp, 0, none⟩ ∧ gp < w.heap.size ∧ (∃ cs fz, w.heap[gp]? = some (.cells cs 5 fz)) ∧ ∀ j v, (bytesV s.data.toList)[j]? = some v → w.cell? ((⟨gp, 0, none⟩ : Addr).add j) = some v := by
  obtain ⟨gp, cs, fz, h1, h2, h3, h4⟩ := h
  refine ⟨gp, h1, lt_of_obj h3, ⟨cs, fz, h3⟩, fun j v hj => ?_⟩
  rw [show ((⟨gp, 0, none⟩ : Addr).add j) = ⟨gp, j, none⟩ by simp [Addr.add]; omega]
  rw [cell_of_row w gp j cs _ fz h3]
  unfold bytesV at hj
  rw [List.getElem?_map] at hj
  obtain ⟨y, hy, rfl⟩ := Option.map_eq_some_iff.1 hj
  obtain ⟨hj2, hy2⟩ := List.getElem?_eq_some_iff.1 hy
  have hjs : j < s.size := by rw [size_list]; exact hj2
  rw [h4 j hjs]
  congr 2
  rw [← hy2]
  rw [Array.getElem_toList]
  rfl
theorem u8_one : (Tryd.prog.info? 5).map (·.size) = some 1 := by kernel_rfl
set_option maxRecDepth 100000 in
set_option maxHeartbeats 1000000 in
theorem write_x (b g cap n c : Nat) (l : List UInt8) (s : ByteArray) (P : Option Addr) (w : World) (h : Res w b g cap l.length l) (hl : l.length ≤ 100000) (hl0 : 1 ≤ l.length) (hp : PB w P n s) (hn0 : 1 ≤ n) (hn1 : n ≤ 100) :
    Calls Tryd.prog 66 #[.pointer (some ⟨b, 0, none⟩), .slice P n c] w fun e w' => e = .returned (.tuple #[.int .i64 n, .nilIface]) ∧ WroteB b g l s.data.toList w w' := by
  have hns : n = s.data.toList.length := by obtain ⟨_, _, _, _, h2, _⟩ := hp; rw [h2, size_list]
  obtain ⟨gp, rfl, hgl, ⟨csp, fzp, hgp⟩, hsrc⟩ := pb_cells hp
  obtain ⟨lr, cur, hb, hg, a1, -, a3, a4, a5, a6⟩ := id h
  have c2 := hb.cell 2
  have f2 := hb.frozen 2
  simp at c2
  have h0 := res_last h
  obtain ⟨lr0, cur0, hb0, hg0, -⟩ := id h0
  have c0 := hb0.cell 0
  have f0 := hb0.frozen 0
  simp at c0
  have hpb : gp ≠ b := by
    rintro rfl
    unfold Blk at hb
    rw [hb] at hgp
    injection hgp with hgp
    injection hgp with _ e
    exact absurd e (by decide)
  have H := Lib.hid (And.intro h (And.intro h0 (And.intro hb0 (And.intro hg0 (And.intro hsrc (And.intro hpb (And.intro hns hgl)))))))
  clear h h0 hb hg hb0 hg0 a6 a5 hsrc hp hgp hpb hgl hns
  obtain ⟨k, hk⟩ : ∃ k, k = l.length := ⟨_, rfl⟩
  rw [← hk] at a1 hl hl0 c0
  have HK := Lib.hid hk
  clear hk
  by_cases hr : k + n ≤ cap
  · go_enter Tryd.func66, Tryd.ntmps66
    go_wp2_with (go_at_call 82; refine (tg_room b k cap n _ _ c0 f0 a1 a4 (by omega)).mono ?_; rintro e w1 ⟨rfl, hw1⟩; obtain ⟨g2, cap2, r1, r2, r3⟩ : Made1 w w1 b g l.length n l := (by rw [hw1, HK.out]; exact made_room H.out.1 (by rw [← HK.out]; exact hr)); clear hw1; rw [← HK.out] at r1; have R := Lib.hid (And.intro r1 (And.intro r2 r3)); obtain ⟨lr2, cur2, q1, q2, q3, -, q4, q5, q6, -⟩ := r1; have d0 := q1.cell 0; simp at d0; have hcp := run_copy_row (P := Tryd.prog) w1 29 29 3 5 g2 k n (cap2 - k) ⟨gp, 0, none⟩ n c cur2 5 (bytesV s.data.toList) Tryd.underlying29 u8_one q2 (by rw [bytesV_length, ← H.out.2.2.2.2.2.2.1]; exact (Nat.min_self n).symm) (fun j v hj => by
        have := H.out.2.2.2.2.1 j v hj
        rw [← this]
        exact World.cell?_of_block (a := (⟨gp, 0, none⟩ : Addr).add j) (by rw [block_of_add]; exact R.out.2.2.block gp H.out.2.2.2.2.2.2.2 (by simpa using H.out.2.2.2.2.2.1))) (by rw [bytesV_length, ← H.out.2.2.2.2.2.2.1]; omega) (bytesV_one _); rw [bytesV_length, ← H.out.2.2.2.2.2.2.1] at hcp; have hne : ¬ cap2 = k := (by omega); have Q2 := Lib.hid q2; have hcm := q5; unfold maxLen at hcm; clear r2 r3 q1 q2 q5)
    go_ret2
    refine ⟨rfl, ?_⟩
    have := res_copy (l := l) s.data.toList (by rw [← H.out.2.2.2.2.2.2.1]; exact HK.out ▸ R.out.1) Q2.out R.out.2.2 R.out.2.1
    rw [← H.out.2.2.2.2.2.2.1, ← HK.out] at this
    exact this
  · go_enter Tryd.func66, Tryd.ntmps66
    go_wp2_with (first
      | (go_at_call 82; refine (tg_none b k cap n _ _ c0 a1 a4 (by omega)).mono ?_; rintro e w1 ⟨rfl, rfl⟩)
      | (go_at_call 83; refine (grow_k b g cap n k l _ HK.out H.out.2.1 hl0 hl hn0 (by omega) (by omega)).mono ?_; rintro e w1 ⟨rfl, cap9, r9, rg9⟩; obtain ⟨g2, cap2, r1, r2, r3⟩ : Made1 w w1 b g l.length n l := made_grow r9 rg9; clear r9 rg9; rw [← HK.out] at r1; have R := Lib.hid (And.intro r1 (And.intro r2 r3)); obtain ⟨lr2, cur2, q1, q2, q3, -, q4, q5, q6, -⟩ := r1; have d0 := q1.cell 0; simp at d0; have hcp := run_copy_row (P := Tryd.prog) w1 29 29 3 5 g2 k n (cap2 - k) ⟨gp, 0, none⟩ n c cur2 5 (bytesV s.data.toList) Tryd.underlying29 u8_one q2 (by rw [bytesV_length, ← H.out.2.2.2.2.2.2.1]; exact (Nat.min_self n).symm) (fun j v hj => by
        have := H.out.2.2.2.2.1 j v hj
        rw [← this]
        exact World.cell?_of_block (a := (⟨gp, 0, none⟩ : Addr).add j) (by rw [block_of_add]; exact R.out.2.2.block gp H.out.2.2.2.2.2.2.2 (by simpa using H.out.2.2.2.2.2.1))) (by rw [bytesV_length, ← H.out.2.2.2.2.2.2.1]; omega) (bytesV_one _); rw [bytesV_length, ← H.out.2.2.2.2.2.2.1] at hcp; have hne : ¬ cap2 = k := (by omega); have Q2 := Lib.hid q2; have hcm := q5; unfold maxLen at hcm; clear r2 r3 q1 q2 q5))
    go_ret2
    refine ⟨rfl, ?_⟩
    have := res_copy (l := l) s.data.toList (by rw [← H.out.2.2.2.2.2.2.1]; exact HK.out ▸ R.out.1) Q2.out R.out.2.2 R.out.2.1
    rw [← H.out.2.2.2.2.2.2.1, ← HK.out] at this
    exact this
end Go.Proofs.YtdbnconphcaclaaDoor
