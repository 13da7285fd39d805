/-
  zerolog's AppendBytes and impl.LBytes: a text in memory is written as esc says, between quotation marks. Conditions: texts of at most 2000 bytes; the tables of unicode/utf8 lie as their initialisers lay them.
-/
import Derived.Test.YtdbnconphcaclaaDoorBCplx
namespace Go.Proofs.YtdbnconphcaclaaDoor
open Go.RowKit
set_option linter.unusedVariables false

set_option maxRecDepth 100000 in
set_option maxHeartbeats 1000000 in
theorem append_bytes (s : ByteArray) (g c0 : Nat) (hc0 : s.size ≤ c0) (hc1 : c0 ≤ 9223372036854775807) (w : World) (hgB : g < w.heap.size) (hby : Lib.Bytes w g 0 s) (hs : s.size ≤ 2000) (hT : Lib.Utf8Tabs 0 1 w) :
    Calls Tryd.prog 35 #[.agg #[], .slice none 0 0, .slice (some ⟨g, 0, none⟩) s.size c0] w (AppRet w.heap.size w ([34] ++ esc s.data.toList ++ [34])) := by
  have hel : (esc s.data.toList).length ≤ 12000 := by have := esc_length s.data.toList; rw [← size_list] at this; omega
  have HT := Lib.hid hT
  have h2 := tabs_size hT
  clear hT
  go_enter Tryd.func35, Tryd.ntmps35
  go_wp2_with (at_builtin; refine app_lg (.tmp 8) (.tmp 9) rfl rfl rfl (OwnB.nil _ w.heap.size) [34] _ (by rfl) (g := w.heap.size + 1) (by simp) rfl (by simp) (by simp) ((Below.refl w.heap.size w).alloc (Nat.le_refl _) _) ?_; intro v1 w1 hA1 hb1 _; have H1 := Lib.hid (And.intro hA1 hb1); clear hA1 hb1)
  go_loop [1, 7] (fun d i => ∃ k : Nat, k ≤ s.size ∧ v1 = d ∧ i = .int .i64 k ∧ Plain s k) (fun _ i => s.size - (intOf i).toNat)
  case atStart => exact ⟨0, Nat.zero_le _, rfl, rfl, by intro x hx; simp at hx⟩
  case round =>
    obtain ⟨k, hk, rfl, rfl, hp⟩ := hrel
    have HP := Lib.hid hp
    clear hp
    have hsz1 := H1.out.2.size
    have hbyr := bytes_keep hby H1.out.2 hgB
    by_cases hlt : k < s.size
    · have hcell := bytes_cell hbyr hlt
      have hckk : k < c0 := by omega
      by_cases he : nEsc s[k] = true
      · go_wp2_with (go_at_call 51; refine (noescape_byte _ _).mono ?_; rintro e w' ⟨rfl, rfl⟩)
        go_round
        case rel => exact ⟨k + 1, by omega, rfl, by go_num, plain_next HP.out hlt he⟩
        case measure => simp [intOf]; omega
      · have he' : nEsc s[k] = false := by simpa using he
        have hT1 := tabs_keep HT.out H1.out.2 h2
        have hc : Cplx s ([34] ++ esc s.data.toList) [34] 0 k := by
          unfold Cplx
          rw [esc_take s.data.toList k HP.out]
          simp
        have HC := Lib.hid hc
        have hTl : ([34] ++ esc s.data.toList).length ≤ 100000 := by simp only [List.length_append, List.length_cons, List.length_nil]; omega
        clear he hc
        go_wp2_with (first
          | (go_at_call 51; refine (noescape_byte _ _).mono ?_; rintro e w' ⟨rfl, rfl⟩)
          | (go_at_call 53; refine (bcomplex_any s g c0 hc0 hc1 k w.heap.size v1 [34] _ _ hs hk H1.out.1 (by omega) h2 hgB hbyr hT1 HC.out hTl).mono ?_; rintro e w2 ⟨v2, rfl, hA2, hb2⟩; have hsz2 := hb2.size)
          | (at_builtin; refine app_l (.tmp 27) (.tmp 28) rfl rfl rfl hA2 [34] _ (by rfl) rfl (by simp only [List.length_append, List.length_cons, List.length_nil]; omega) (by omega) (H1.out.2.trans hb2) ?_; intro v3 w3 hA3 hb3 _))
        go_ret
        exact ⟨_, rfl, hA3, hb3⟩
    · have hkk : k = s.size := by omega
      have hall : esc s.data.toList = s.data.toList := esc_all _ (by
        intro x hx
        refine HP.out x ?_
        rw [List.take_of_length_le (by rw [hkk]; exact Nat.le_of_eq (size_list s).symm)]
        exact hx)
      have HA := Lib.hid hall
      clear hall
      have hl2 : ([34] ++ s.data.toList).length + [(34 : UInt8)].length ≤ 140737488355328 := by
        have : s.data.toList.length = s.size := (size_list s).symm
        simp only [List.length_append, List.length_cons, List.length_nil]; omega
      have hl1 : [(34 : UInt8)].length + (s.size - 0) ≤ 140737488355328 := by simp only [List.length_cons, List.length_nil]; omega
      go_wp2_with (first
        | (at_builtin; refine app_m (.tmp 30) (.tmp 31) rfl rfl rfl H1.out.1 s g 0 s.size hbyr (by omega) (by omega) _ _ rfl rfl (by omega) hl1 (by omega) H1.out.2 ?_; rw [List.drop_zero, List.take_of_length_le (Nat.le_of_eq (size_list s).symm)]; intro v2 w2 hA2 hb2 hsz2)
        | (at_builtin; refine app_l (.tmp 33) (.tmp 34) rfl rfl rfl hA2 [34] _ (by rfl) rfl hl2 (by omega) hb2 ?_; intro v3 w3 hA3 hb3 _))
      go_ret
      exact ⟨_, rfl, by rw [HA.out]; exact hA3, hb3⟩

set_option maxRecDepth 100000 in
theorem lbytes (s : ByteArray) (g c0 : Nat) (hc0 : s.size ≤ c0) (hc1 : c0 ≤ 9223372036854775807) (w : World) (hgB : g < w.heap.size) (hby : Lib.Bytes w g 0 s) (hs : s.size ≤ 2000) (hT : Lib.Utf8Tabs 0 1 w) :
    Calls Tryd.prog 15 #[.slice (some ⟨g, 0, none⟩) s.size c0] w fun e w' => e = .returned (.string (quoted s.data.toList)) ∧ Below w.heap.size w w' := by
  have HT := Lib.hid hT
  clear hT
  go_enter Tryd.func15, Tryd.ntmps15
  go_wp2_with (go_at_call 35; refine (append_bytes s g c0 hc0 hc1 _ hgB hby hs HT.out).mono ?_; rintro e w1 ⟨v, rfl, hA, hb⟩; have ht := text_of_own hA)
  go_ret
  exact ⟨rfl, hb⟩
end Go.Proofs.YtdbnconphcaclaaDoor
