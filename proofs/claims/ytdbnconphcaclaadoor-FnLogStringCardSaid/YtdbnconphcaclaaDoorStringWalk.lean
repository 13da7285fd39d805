/-
  FnLogString: what is written of a text, and of the same bytes, is read back as the text with each byte that is no UTF-8 replaced. Conditions: the tables of unicode/utf8 lie as their initialisers lay them.
-/
import Derived.Test.YtdbnconphcaclaaDoorJRead
import Derived.Test.YtdbnconphcaclaaDoorLBytes
import Derived.Test.YtdbnconphcaclaaDoorAwake
import Derived.Lib.ConvBytes
namespace Go.Proofs.YtdbnconphcaclaaDoor
open Go.RowKit
set_option linter.unusedVariables false

/-- []byte(s). -/
theorem conv_bytes (w : World) (s : ByteArray) (hs : s.size ≤ 100000) : ∃ c w', (convert 9 29 (.string s)).run Tryd.prog w = .ok (.slice (some ⟨w.heap.size, 0, none⟩) s.size c) w' ∧ s.size ≤ c ∧ c ≤ 9223372036854775807 ∧ Lib.Bytes w' w.heap.size 0 s ∧ Below w.heap.size w w' ∧ w.heap.size < w'.heap.size := by
  refine ⟨_, _, Lib.run_convert_string_bytes w 9 29 5 s Tryd.underlying9 Tryd.underlying29 Tryd.underlying5, grownCap_ge _ _ _ _, grownCap_le_maxLen _ _ _ _ (by unfold maxLen; omega), ?_, ?_, ?_⟩
  · intro i hi
    rw [Nat.zero_add, Lib.bytesWorld_cell _ _ _ _ hi, List.getD_eq_getElem?_getD, List.getElem?_eq_getElem (by rw [← size_list]; exact hi)]
    rfl
  · exact ⟨rfl, rfl, rfl, by rw [Lib.bytesWorld_size]; omega, fun k hk => Lib.bytesWorld_at_old _ _ _ _ hk⟩
  · rw [Lib.bytesWorld_size]; omega

theorem jreadX (L : List UInt8) (X T : ByteArray) (hX : X = quoted L) (hT8 : T = ⟨(true8 L).toArray⟩) (hL : L.length ≤ 2000) (w : World) (h2 : 2 ≤ w.heap.size) (hT : Lib.Utf8Tabs 0 1 w) :
    Calls Tryd.prog 16 #[.string X] w fun e w' => e = .returned (.tuple #[.agg #[.int .i64 4, .string T, .slice none 0 0, .slice none 0 0], .bool true]) ∧ Below w.heap.size w w' := by
  subst hX hT8
  exact jread L hL w h2 hT

theorem v_kept {w5 w6 : World} {t : TypeId} {cs : Array Value} {n : Nat} (hb : Below ((w5.alloc (.cells cs t)).drewN n).heap.size ((w5.alloc (.cells cs t)).drewN n) w6) (i : Nat) : w6.cell? ⟨w5.heap.size, i, none⟩ = cs[i]? :=
  Blk.cell (Blk.below ((Blk.new w5 t cs).drewN n) hb (by show w5.heap.size < (w5.alloc (.cells cs t)).heap.size; simp)) i
theorem round_kept {W wr w5 w6 : World} {g n : Nat} {t t' : TypeId} {cs cs' : Array Value} (h : Blk wr g t' cs' ∧ Below W.heap.size W wr) (hb5 : Below wr.heap.size wr w5) (hb : Below ((w5.alloc (.cells cs t)).drewN n).heap.size ((w5.alloc (.cells cs t)).drewN n) w6) : Blk w6 g t' cs' ∧ Below W.heap.size W w6 := by
  have h1 := h.1.lt
  have h2 := hb5.size
  have h3 : ((w5.alloc (.cells cs t)).drewN n).heap.size = w5.heap.size + 1 := by show (w5.alloc (.cells cs t)).heap.size = _; simp
  have h4 := h.2.size
  refine ⟨Blk.below (((Blk.below h.1 hb5 h1).alloc _).drewN n) hb (by rw [h3]; omega), ?_⟩
  have h5 : Below W.heap.size W ((w5.alloc (.cells cs t)).drewN n) := below_drewN ((h.2.trans (hb5.mono (by omega))).alloc (by omega) _) n
  exact h5.trans (hb.mono (by rw [h3]; omega))
theorem jtrue8T (s T : ByteArray) (hT8 : T = ⟨(true8 s.data.toList).toArray⟩) (w : World) (hs : s.size ≤ 2000) (hT : Lib.Utf8Tabs 0 1 w) :
    Calls Tryd.prog 13 #[.string s] w fun e w' => e = .returned (.string T) ∧ Below w.heap.size w w' := by
  subst hT8
  exact jtrue8 s w hs hT

set_option maxRecDepth 100000 in
set_option maxHeartbeats 1000000 in
theorem string_law (s : ByteArray) (hs : s.size ≤ 9223372036854775807) (W : World) (hT : Lib.Utf8Tabs 0 1 W) :
    Calls Tryd.prog 6 #[.string s] W fun e w' => e = .returned (.bool true) ∧ Below W.heap.size W w' := by
  have HT := Lib.hid hT
  have h2 := tabs_size hT
  clear hT
  by_cases h00 : 2147483647 < s.size
  · go_enter Tryd.func6, Tryd.ntmps6
    go_wp2
    go_ret
    exact ⟨rfl, Below.refl _ _⟩
  by_cases h0 : 2000 < s.size
  · go_enter Tryd.func6, Tryd.ntmps6
    go_wp2
    go_ret
    exact ⟨rfl, Below.refl _ _⟩
  obtain ⟨X, hX⟩ : ∃ X, X = quoted s.data.toList := ⟨_, rfl⟩
  obtain ⟨T, hT8⟩ : ∃ T : ByteArray, T = ⟨(true8 s.data.toList).toArray⟩ := ⟨_, rfl⟩
  have HX := Lib.hid hX
  have HT8 := Lib.hid hT8
  clear hX hT8
  go_enter Tryd.func6, Tryd.ntmps6
  go_wp2_with (first
    | (go_at_call 14; refine (lstring s _ (by omega) HT.out).mono ?_; rintro e w1 ⟨rfl, hb1⟩; rw [← HX.out]; obtain ⟨c, w2, hconv, hc0, hc1, hby, hb2, hs2⟩ := conv_bytes w1 s (by omega); have hs1 := hb1.size; have hT2 := tabs_keep (tabs_keep HT.out hb1 h2) hb2 (by omega))
    | (go_at_call 15; refine (lbytes s w1.heap.size c hc0 hc1 _ hs2 hby (by omega) hT2).mono ?_; rintro e w3 ⟨rfl, hb3⟩; rw [← HX.out]))
  have hb4 : Below W.heap.size W (w3.alloc (.cells #[.string X, .string X] 9)) := (hb1.trans ((hb2.trans (hb3.mono (by omega))).mono hs1)).alloc (by have := hb3.size; omega) _
  have hB4 : W.heap.size ≤ w3.heap.size := by have := hb3.size; omega
  have HB := Lib.hid hb4
  clear hb1 hb2 hb3 hb4 hby hconv hT2
  go_loopw [20] (fun i wr => ∃ k : Nat, k ≤ 2 ∧ i = .int .i64 k ∧ Blk wr w3.heap.size 9 #[.string X, .string X] ∧ Below W.heap.size W wr) (fun i _ => 2 - (intOf i).toNat)
  case atStart => exact ⟨0, by omega, rfl, Blk.new _ _ _, HB.out⟩
  case round =>
    obtain ⟨k, hk, rfl, hrow, hbel⟩ := hrel
    have hTr := tabs_keep HT.out hbel h2
    have hsz := hbel.size
    have HR := Lib.hid (And.intro hrow hbel)
    by_cases hlt : k < 2
    · have hc : wr.cell? ⟨w3.heap.size, k, none⟩ = some (.string X) := by
        rw [hrow.cell]
        have : k = 0 ∨ k = 1 := by omega
        rcases this with rfl | rfl <;> rfl
      clear hrow hbel
      go_wp2_with (first
        | (go_at_call 16; refine (jreadX s.data.toList X T HX.out HT8.out (by rw [← size_list]; omega) _ (by omega) hTr).mono ?_; rintro e w5 ⟨rfl, hb5⟩; have hs5 := hb5.size; have hT5 := Lib.hid (tabs_keep hTr hb5 (by omega)); clear hc))
      have hT6 : ∀ n, Lib.Utf8Tabs 0 1 ((w5.alloc (.cells #[.int .i64 4, .string T, .slice none 0 0, .slice none 0 0] 33)).drewN n) := fun n => tabs_keep hT5.out (below_drewN ((Below.refl w5.heap.size w5).alloc (Nat.le_refl _) _) n) (by omega)
      have HT6 := Lib.hid hT6
      clear hT6
      go_region_with (go_at_call 13; refine (jtrue8T s T HT8.out _ (by omega) (HT6.out _)).mono ?_; rintro e w6 ⟨rfl, hb6⟩; have y1 := v_kept hb6 1; have HB6 := Lib.hid hb6; clear hb6)
      all_goals
        have HK := Lib.hid (round_kept HR.out hb5 HB6.out)
        go_wp2
        go_roundw
        case rel => exact ⟨k + 1, by omega, by go_num, HK.out.1, HK.out.2⟩
        case measure => simp [intOf]; omega
    · have hk2 : k = 2 := by omega
      subst hk2
      go_wp2_with (go_at_call 12; refine (awake_any _).mono ?_; rintro e w9 ⟨rfl, n9, rfl⟩)
      go_ret
      exact ⟨rfl, below_drewN HR.out.2 _⟩
end Go.Proofs.YtdbnconphcaclaaDoor
