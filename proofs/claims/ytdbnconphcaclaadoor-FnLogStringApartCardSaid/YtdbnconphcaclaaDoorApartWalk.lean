/-
  FnLogStringApart: different texts of UTF-8 are written differently, and a text behind another one as both are written. Conditions: the tables of unicode/utf8 lie as their initialisers lay them.
-/
import Derived.Test.YtdbnconphcaclaaDoorApart
import Derived.Test.YtdbnconphcaclaaDoorAwake
import Derived.Deep.QuietTactic
import Derived.BigQuiet
namespace Go.Proofs.YtdbnconphcaclaaDoor
open Go.RowKit
set_option linter.unusedVariables false

theorem text_eq {l : List UInt8} {s : ByteArray} (h : l = s.data.toList) : (⟨l.toArray⟩ : ByteArray) = s := by
  apply ByteArray.ext
  rw [h]
theorem text_ne {l : List UInt8} {s : ByteArray} (h : l ≠ s.data.toList) : (l == s.toList) = false := by
  rw [ByteArray.toList_eq]
  simpa using h

theorem quoted_list (l : List UInt8) : (quoted l).data.toList = [34] ++ esc l ++ [34] := by simp [quoted]
theorem quoted_size (l : List UInt8) : 1 < (quoted l).size := by
  rw [size_list, quoted_list]
  simp only [List.length_append, List.length_cons, List.length_nil]
  omega
theorem quoted_most {s : ByteArray} (h : s.size ≤ 1000) : (quoted s.data.toList).size ≤ 6002 := by
  rw [size_list, quoted_list]
  have := esc_length s.data.toList
  rw [size_list] at h
  simp only [List.length_append, List.length_cons, List.length_nil]
  omega
theorem quoted_inj {a b : ByteArray} (ta : true8 a.data.toList = a.data.toList) (tb : true8 b.data.toList = b.data.toList) : ((quoted a.data.toList).toList == (quoted b.data.toList).toList) = (a.toList == b.toList) := by
  simp only [ByteArray.toList_eq, quoted_list]
  rw [Bool.eq_iff_iff]
  simp only [beq_iff_eq]
  constructor
  · intro h
    exact esc_inj _ _ _ (Nat.le_refl _) ta tb (List.append_cancel_left (List.append_cancel_right h))
  · intro h
    rw [h]
theorem quoted_two {a b : ByteArray} (ta : true8 a.data.toList = a.data.toList) :
    ((quoted (a ++ b).data.toList).toList == ((quoted a.data.toList).extract 0 ((quoted a.data.toList).size - 1) ++ (quoted b.data.toList).extract 1 (quoted b.data.toList).size).toList) = true := by
  simp only [ByteArray.toList_eq, beq_iff_eq]
  rw [ByteArray.data_append, ByteArray.data_append, Array.toList_append, Array.toList_append, extract_list, extract_list, quoted_list, quoted_list, quoted_list, size_list, size_list, quoted_list, quoted_list, esc_append _ _ _ (Nat.le_refl _) ta]
  rw [List.drop_zero, List.take_of_length_le (Nat.le_refl _)]
  have e : ([34] ++ esc a.data.toList ++ [34]).length - 1 = ([34] ++ esc a.data.toList).length := by simp
  rw [e, List.take_left']
  · simp
  · rfl

set_option maxRecDepth 100000 in
set_option maxHeartbeats 1000000 in
theorem apart_law (a b : ByteArray) (ha : a.size ≤ 9223372036854775807) (hb : b.size ≤ 9223372036854775807) (W : World) (hT : Lib.Utf8Tabs 0 1 W) :
    Calls Tryd.prog 4 #[.string a, .string b] W fun e w' => e = .returned (.bool true) ∧ Below W.heap.size W w' := by
  have HT := Lib.hid hT
  have h2 := tabs_size hT
  clear hT
  by_cases a0 : 2147483647 < a.size
  · go_enter Tryd.func4, Tryd.ntmps4
    go_wp2
    go_ret
    exact ⟨rfl, Below.refl _ _⟩
  by_cases b0 : 2147483647 < b.size
  · go_enter Tryd.func4, Tryd.ntmps4
    go_wp2
    go_ret
    exact ⟨rfl, Below.refl _ _⟩
  by_cases a1 : 1000 < a.size
  · go_enter Tryd.func4, Tryd.ntmps4
    go_wp2
    go_ret
    exact ⟨rfl, Below.refl _ _⟩
  by_cases b1 : 1000 < b.size
  · go_enter Tryd.func4, Tryd.ntmps4
    go_wp2
    go_ret
    exact ⟨rfl, Below.refl _ _⟩
  by_cases ta : true8 a.data.toList = a.data.toList
  · have ea := text_eq ta
    by_cases tb : true8 b.data.toList = b.data.toList
    · have eb := text_eq tb
      have HTB := Lib.hid (And.intro ta tb)
      clear ta tb
      obtain ⟨X, hX⟩ : ∃ X, X = quoted a.data.toList := ⟨_, rfl⟩
      obtain ⟨Y, hY⟩ : ∃ Y, Y = quoted b.data.toList := ⟨_, rfl⟩
      obtain ⟨Z, hZ⟩ : ∃ Z, Z = quoted (a ++ b).data.toList := ⟨_, rfl⟩
      have f1 : 1 < X.size := by rw [hX]; exact quoted_size _
      have f2 : 1 < Y.size := by rw [hY]; exact quoted_size _
      have f3 : (X.toList == Y.toList) = (a.toList == b.toList) := by rw [hX, hY]; exact quoted_inj HTB.out.1 HTB.out.2
      have g1 : decide ((1 : Int) < X.size) = true := by simp; omega
      have g2 : decide ((1 : Int) < Y.size) = true := by simp; omega
      have g3 : ((X.toList == Y.toList) == (a.toList == b.toList)) = true := by rw [f3]; simp
      clear f3
      have f4 : X.size ≤ 6002 := by rw [hX]; exact quoted_most (by omega)
      have f5 : Y.size ≤ 6002 := by rw [hY]; exact quoted_most (by omega)
      have f6 : (Z.toList == (X.extract 0 (X.size - 1) ++ Y.extract 1 Y.size).toList) = true := by rw [hX, hY, hZ]; exact quoted_two HTB.out.1
      have f7 : (a ++ b).size ≤ 2000 := by rw [ByteArray.size_append]; omega
      have HX := Lib.hid (And.intro hX (And.intro hY hZ))
      clear hX hY hZ
      go_enter Tryd.func4, Tryd.ntmps4
      go_wp2_with (first
        | (go_at_call 14; refine (lstring (a ++ b) _ f7 hT4).mono ?_; rintro e w5 ⟨rfl, hb5⟩; rw [← HX.out.2.2])
        | (go_at_call 14; refine (lstring b _ (by omega) hT3).mono ?_; rintro e w4 ⟨rfl, hb4⟩; rw [← HX.out.2.1]; have hT4 := tabs_keep hT3 hb4 (by omega); have hs4 := hb4.size)
        | (go_at_call 14; refine (lstring a _ (by omega) hT2).mono ?_; rintro e w3 ⟨rfl, hb3⟩; rw [← HX.out.1]; have hT3 := tabs_keep hT2 hb3 (by omega); have hs3 := hb3.size)
        | (go_at_call 13; refine (jtrue8 b _ (by omega) hT1).mono ?_; rintro e w2 ⟨rfl, hb2⟩; rw [eb]; have hT2 := tabs_keep hT1 hb2 (by omega); have hs2 := hb2.size)
        | (go_at_call 13; refine (jtrue8 a _ (by omega) HT.out).mono ?_; rintro e w1 ⟨rfl, hb1⟩; rw [ea]; have hT1 := tabs_keep HT.out hb1 h2; have hs1 := hb1.size))
      go_quiet ((go_at_call 12; exact Calls.quiet_of (awake_any _)))
      go_wp2
      go_ret
      exact ⟨rfl, below_drewN (hb1.trans ((hb2.trans ((hb3.trans ((hb4.trans (hb5.mono hs4)).mono hs3)).mono hs2)).mono hs1)) _⟩
    · have eb := text_ne tb
      have HTB := Lib.hid (And.intro ta tb)
      clear ta tb
      go_enter Tryd.func4, Tryd.ntmps4
      go_wp2_with (first
        | (go_at_call 13; refine (jtrue8 b _ (by omega) hT1).mono ?_; rintro e w2 ⟨rfl, hb2⟩)
        | (go_at_call 13; refine (jtrue8 a _ (by omega) HT.out).mono ?_; rintro e w1 ⟨rfl, hb1⟩; rw [ea]; have hT1 := tabs_keep HT.out hb1 h2; have hs1 := hb1.size))
      go_ret
      exact ⟨rfl, hb1.trans (hb2.mono hs1)⟩
  · have ea := text_ne ta
    have HTB := Lib.hid ta
    clear ta
    go_enter Tryd.func4, Tryd.ntmps4
    go_wp2_with (go_at_call 13; refine (jtrue8 a _ (by omega) HT.out).mono ?_; rintro e w1 ⟨rfl, hb1⟩)
    go_ret
    exact ⟨rfl, hb1⟩
end Go.Proofs.YtdbnconphcaclaaDoor
