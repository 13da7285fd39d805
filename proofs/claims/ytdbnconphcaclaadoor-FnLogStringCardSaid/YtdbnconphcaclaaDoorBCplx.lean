/-
  zerolog's appendBytesComplex: a text in memory is written as esc says (printed by wip/gen_bcplx.py). Conditions: texts of at most 2000 bytes; the tables of unicode/utf8 lie as their initialisers lay them.
-/
import Derived.Test.YtdbnconphcaclaaDoorBRow
namespace Go.Proofs.YtdbnconphcaclaaDoor
open Go.RowKit
set_option linter.unusedVariables false

set_option maxRecDepth 100000 in
set_option maxHeartbeats 8000000 in
theorem bcomplex_any (s : ByteArray) (g c0 : Nat) (hc0 : s.size ≤ c0) (hc1 : c0 ≤ 9223372036854775807) (i0 B : Nat) (v0 : Value) (xs T : List UInt8) (w : World) (hs : s.size ≤ 2000) (hi0 : i0 ≤ s.size) (hown : OwnB w B v0 xs) (hB : B ≤ w.heap.size) (hB2 : 2 ≤ B) (hgB : g < B) (hby : Lib.Bytes w g 0 s) (hT : Lib.Utf8Tabs 0 1 w) (hc : Cplx s T xs 0 i0) (hTl : T.length ≤ 100000) :
    Calls Tryd.prog 53 #[v0, .slice (some ⟨g, 0, none⟩) s.size c0, .int .i64 i0] w (CplxRet B w T) := by
  have H0 := Lib.hid (And.intro hown (And.intro hT hc))
  clear hown hT hc
  go_enter Tryd.func53, Tryd.ntmps53
  go_wp2
  go_loopw [0, 2, 7] (fun v i st wr => ∃ (k z : Nat) (acc : List UInt8), k ≤ s.size ∧ z ≤ k ∧ i = .int .i64 k ∧ st = .int .i64 z ∧ OwnB wr B v acc ∧ Cplx s T acc z k ∧ Below B w wr) (fun _ i _ _ => s.size - (intOf i).toNat)
  case atStart => exact ⟨i0, 0, xs, hi0, Nat.zero_le _, rfl, rfl, H0.out.1, H0.out.2.2, Below.refl _ _⟩
  case round =>
    obtain ⟨k, z, acc, hk, hz, rfl, rfl, hown, hc, hbel⟩ := hrel
    have hsz := hbel.size
    have hbyr := bytes_keep hby hbel hgB
    have hT := tabs_keep H0.out.2.1 hbel hB2
    have hlen := cplx_len hc hz hk
    have HC := Lib.hid (And.intro hown (And.intro hc hbel))
    clear hc
    by_cases hlt : k < s.size
    · have hcell := bytes_cell hbyr hlt
      have hckk : k < c0 := by omega
      by_cases hb128 : 128 ≤ s[k].toNat
      · have hbi : (128 : Int) ≤ ((s[k].toNat : Nat) : Int) := by omega
        by_cases hg : bad (s.data.toList.drop k) = true
        · have HR := Lib.hid (And.intro (bad_iff.1 hg) (cplx_bad HC.out.2.1 hz hlt hb128 hg))
          clear hg
          by_cases hzk : z < k
          · have hes := cut_len s z k hk
            have HES := Lib.hid hes
            clear hes
            go_wp2_with (first
              | (go_at_call 73; refine (decode_mem s g k _ _ _ 65533 1 _ (by omega) (by omega) hlt hT hbyr (by rw [HR.out.1.1]; rfl) (by rw [HR.out.1.2]; rfl)).mono ?_; rintro e w1 ⟨rfl, hbw⟩; have hown1 := hown.below hbw; have hsz1 := hbw.size; have hbel1 := hbel.trans (hbw.mono (by omega)); have hby1 := bytes_keep hby hbel1 hgB)
              | (at_builtin; refine app_m (.tmp 37) (.tmp 41) rfl rfl rfl hown1 s g z k hby1 (by omega) (by omega) _ _ rfl (by omega) (by omega) (by omega) (by omega) hbel1 ?_; intro v2 w2 hA2 hb2 hs2; obtain ⟨A2, HA2, hA3⟩ := own_name hA2; have hl2 : A2.length ≤ 100000 := by rw [HA2.out, List.length_append, HES.out]; omega)
              | (at_builtin; refine app_s (.tmp 43) _ rfl rfl rfl hA3 ⟨#[92, 117, 102, 102, 102, 100]⟩ rfl (by show _ + 6 ≤ _; omega) (by omega) hb2 ?_; intro v9 w9 hA9 hb9 _; have HF := Lib.hid (And.intro hA9 hb9); clear hA9 hb9))
            go_roundw
            case rel => exact ⟨k + 1, k + 1, _, by omega, by omega, by go_num, by go_num, HF.out.1, by rw [HA2.out]; exact HR.out.2, HF.out.2⟩
            case measure => simp [intOf]; omega
          · have hzk' : z = k := by omega
            subst hzk'
            go_wp2_with (first
              | (go_at_call 73; refine (decode_mem s g z _ _ _ 65533 1 _ (by omega) (by omega) hlt hT hbyr (by rw [HR.out.1.1]; rfl) (by rw [HR.out.1.2]; rfl)).mono ?_; rintro e w1 ⟨rfl, hbw⟩; have hown1 := hown.below hbw; have hsz1 := hbw.size; have hbel1 := hbel.trans (hbw.mono (by omega)); have hby1 := bytes_keep hby hbel1 hgB)
              | (at_builtin; refine app_s (.tmp 43) _ rfl rfl rfl hown1 ⟨#[92, 117, 102, 102, 102, 100]⟩ rfl (by show _ + 6 ≤ _; omega) (by omega) hbel1 ?_; intro v9 w9 hA9 hb9 _; have HF := Lib.hid (And.intro hA9 hb9); clear hA9 hb9))
            go_roundw
            case rel => exact ⟨z + 1, z + 1, _, by omega, by omega, by go_num, by go_num, HF.out.1, by have := HR.out.2; rwa [cut_none, List.append_nil] at this, HF.out.2⟩
            case measure => simp [intOf]; omega
        · obtain ⟨r, hr⟩ : ∃ r : Int, r = (dec (s.data.toList.drop k)).1 := ⟨_, rfl⟩
          obtain ⟨n, hn⟩ : ∃ n : Nat, n = (dec (s.data.toList.drop k)).2 := ⟨_, rfl⟩
          have hg' : bad (s.data.toList.drop k) = false := by simpa using hg
          obtain ⟨q1, q2⟩ := cplx_rune n HC.out.2.1 hz hlt hb128 hg' hn
          have hn2 : 2 ≤ n := by
            have := drop_cons s k hlt
            rw [this] at hg' hn
            rw [hn]
            exact dec_two hb128 hg'
          have HR := Lib.hid (And.intro hr (And.intro (show (n : Int) = (dec (s.data.toList.drop k)).2 by rw [hn]) q2))
          have hn1 : ((n : Int) == 1) = false := by simp; omega
          clear hr hn q2 hg hg'
          go_wp2_with (go_at_call 73; refine (decode_mem s g k _ _ _ r n _ (by omega) (by omega) hlt hT hbyr HR.out.1 HR.out.2.1).mono ?_; rintro e w' ⟨rfl, hbw⟩)
          all_goals
            go_roundw
            case rel => exact ⟨k + n, z, acc, q1, by omega, by go_num, rfl, HC.out.1.below hbw, HR.out.2.2, hbel.trans (hbw.mono (by omega))⟩
            case measure => simp [intOf]; omega
      · have hbi : ((s[k].toNat : Nat) : Int) < 128 := by omega
        by_cases he : nEsc s[k] = true
        · go_wp2_with (go_at_call 51; refine (noescape_byte _ _).mono ?_; rintro e w' ⟨rfl, rfl⟩)
          go_roundw
          case rel => exact ⟨k + 1, z, acc, by omega, by omega, by go_num, rfl, HC.out.1, cplx_plain HC.out.2.1 hz hlt he, HC.out.2.2⟩
          case measure => simp [intOf]; omega
        · have he' : nEsc s[k] = false := by simpa using he
          have HE := Lib.hid (cplx_esc HC.out.2.1 hz hlt (by omega) he')
          clear he
          by_cases e0 : s[k].toNat = 34
          · have f0 : (((s[k].toNat : Nat) : Int) == 34) = true := by simp; omega
            have hX : escOf s[k] = [92, s[k]] := by unfold escOf; simp [e0]
            rw [hX] at HE
            have HX := Lib.hid HE.out
            clear HE hX e0
            by_cases hzk : z < k
            · have hes := cut_len s z k hk
              have HES := Lib.hid hes
              clear hes
              go_wp2_with (first
                  | (go_at_call 51; refine (noescape_byte _ _).mono ?_; rintro e w' ⟨rfl, rfl⟩)
                  | (at_builtin; refine app_m (.tmp 59) (.tmp 63) rfl rfl rfl hown s g z k hbyr (by omega) (by omega) _ _ rfl (by omega) (by omega) (by omega) (by omega) hbel ?_; intro v2 w2 hA2 hb2 hs2; obtain ⟨A2, HA2, hA3⟩ := own_name hA2; have hl2 : A2.length ≤ 100000 := by rw [HA2.out, List.length_append, HES.out]; omega)
                  | (at_builtin; refine app_l (.tmp 78) (.tmp 80) rfl rfl rfl hA3 [92, s[k]] _ (by rfl) rfl (by simp only [List.length_cons, List.length_nil]; omega) (by omega) hb2 ?_; intro v9 w9 hA9 hb9 _; have HF := Lib.hid (And.intro hA9 hb9); clear hA9 hb9))
              go_roundw
              case rel => exact ⟨k + 1, k + 1, _, by omega, by omega, by go_num, by go_num, HF.out.1, by rw [HA2.out]; exact HX.out, HF.out.2⟩
              case measure => simp [intOf]; omega
            · have hzk' : z = k := by omega
              subst hzk'
              go_wp2_with (first
                  | (go_at_call 51; refine (noescape_byte _ _).mono ?_; rintro e w' ⟨rfl, rfl⟩)
                  | (at_builtin; refine app_l (.tmp 78) (.tmp 80) rfl rfl rfl hown [92, s[z]] _ (by rfl) rfl (by simp only [List.length_cons, List.length_nil]; omega) (by omega) hbel ?_; intro v9 w9 hA9 hb9 _; have HF := Lib.hid (And.intro hA9 hb9); clear hA9 hb9))
              go_roundw
              case rel => exact ⟨z + 1, z + 1, _, by omega, by omega, by go_num, by go_num, HF.out.1, by have := HX.out; rwa [cut_none, List.append_nil] at this, HF.out.2⟩
              case measure => simp [intOf]; omega
          · by_cases e1 : s[k].toNat = 92
            · have f0 : (((s[k].toNat : Nat) : Int) == 34) = false := by simp; omega
              have f1 : (((s[k].toNat : Nat) : Int) == 92) = true := by simp; omega
              have hX : escOf s[k] = [92, s[k]] := by unfold escOf; simp [e1]
              rw [hX] at HE
              have HX := Lib.hid HE.out
              clear HE hX e0 e1
              by_cases hzk : z < k
              · have hes := cut_len s z k hk
                have HES := Lib.hid hes
                clear hes
                go_wp2_with (first
                    | (go_at_call 51; refine (noescape_byte _ _).mono ?_; rintro e w' ⟨rfl, rfl⟩)
                    | (at_builtin; refine app_m (.tmp 59) (.tmp 63) rfl rfl rfl hown s g z k hbyr (by omega) (by omega) _ _ rfl (by omega) (by omega) (by omega) (by omega) hbel ?_; intro v2 w2 hA2 hb2 hs2; obtain ⟨A2, HA2, hA3⟩ := own_name hA2; have hl2 : A2.length ≤ 100000 := by rw [HA2.out, List.length_append, HES.out]; omega)
                    | (at_builtin; refine app_l (.tmp 78) (.tmp 80) rfl rfl rfl hA3 [92, s[k]] _ (by rfl) rfl (by simp only [List.length_cons, List.length_nil]; omega) (by omega) hb2 ?_; intro v9 w9 hA9 hb9 _; have HF := Lib.hid (And.intro hA9 hb9); clear hA9 hb9))
                go_roundw
                case rel => exact ⟨k + 1, k + 1, _, by omega, by omega, by go_num, by go_num, HF.out.1, by rw [HA2.out]; exact HX.out, HF.out.2⟩
                case measure => simp [intOf]; omega
              · have hzk' : z = k := by omega
                subst hzk'
                go_wp2_with (first
                    | (go_at_call 51; refine (noescape_byte _ _).mono ?_; rintro e w' ⟨rfl, rfl⟩)
                    | (at_builtin; refine app_l (.tmp 78) (.tmp 80) rfl rfl rfl hown [92, s[z]] _ (by rfl) rfl (by simp only [List.length_cons, List.length_nil]; omega) (by omega) hbel ?_; intro v9 w9 hA9 hb9 _; have HF := Lib.hid (And.intro hA9 hb9); clear hA9 hb9))
                go_roundw
                case rel => exact ⟨z + 1, z + 1, _, by omega, by omega, by go_num, by go_num, HF.out.1, by have := HX.out; rwa [cut_none, List.append_nil] at this, HF.out.2⟩
                case measure => simp [intOf]; omega
            · by_cases e2 : s[k].toNat = 8
              · have f0 : (((s[k].toNat : Nat) : Int) == 34) = false := by simp; omega
                have f1 : (((s[k].toNat : Nat) : Int) == 92) = false := by simp; omega
                have f2 : (((s[k].toNat : Nat) : Int) == 8) = true := by simp; omega
                have hX : escOf s[k] = [92, 98] := by unfold escOf; simp [e2]
                rw [hX] at HE
                have HX := Lib.hid HE.out
                clear HE hX e0 e1 e2
                by_cases hzk : z < k
                · have hes := cut_len s z k hk
                  have HES := Lib.hid hes
                  clear hes
                  go_wp2_with (first
                      | (go_at_call 51; refine (noescape_byte _ _).mono ?_; rintro e w' ⟨rfl, rfl⟩)
                      | (at_builtin; refine app_m (.tmp 59) (.tmp 63) rfl rfl rfl hown s g z k hbyr (by omega) (by omega) _ _ rfl (by omega) (by omega) (by omega) (by omega) hbel ?_; intro v2 w2 hA2 hb2 hs2; obtain ⟨A2, HA2, hA3⟩ := own_name hA2; have hl2 : A2.length ≤ 100000 := by rw [HA2.out, List.length_append, HES.out]; omega)
                      | (at_builtin; refine app_l (.tmp 84) (.tmp 85) rfl rfl rfl hA3 [92, 98] _ (by rfl) rfl (by simp only [List.length_cons, List.length_nil]; omega) (by omega) hb2 ?_; intro v9 w9 hA9 hb9 _; have HF := Lib.hid (And.intro hA9 hb9); clear hA9 hb9))
                  go_roundw
                  case rel => exact ⟨k + 1, k + 1, _, by omega, by omega, by go_num, by go_num, HF.out.1, by rw [HA2.out]; exact HX.out, HF.out.2⟩
                  case measure => simp [intOf]; omega
                · have hzk' : z = k := by omega
                  subst hzk'
                  go_wp2_with (first
                      | (go_at_call 51; refine (noescape_byte _ _).mono ?_; rintro e w' ⟨rfl, rfl⟩)
                      | (at_builtin; refine app_l (.tmp 84) (.tmp 85) rfl rfl rfl hown [92, 98] _ (by rfl) rfl (by simp only [List.length_cons, List.length_nil]; omega) (by omega) hbel ?_; intro v9 w9 hA9 hb9 _; have HF := Lib.hid (And.intro hA9 hb9); clear hA9 hb9))
                  go_roundw
                  case rel => exact ⟨z + 1, z + 1, _, by omega, by omega, by go_num, by go_num, HF.out.1, by have := HX.out; rwa [cut_none, List.append_nil] at this, HF.out.2⟩
                  case measure => simp [intOf]; omega
              · by_cases e3 : s[k].toNat = 12
                · have f0 : (((s[k].toNat : Nat) : Int) == 34) = false := by simp; omega
                  have f1 : (((s[k].toNat : Nat) : Int) == 92) = false := by simp; omega
                  have f2 : (((s[k].toNat : Nat) : Int) == 8) = false := by simp; omega
                  have f3 : (((s[k].toNat : Nat) : Int) == 12) = true := by simp; omega
                  have hX : escOf s[k] = [92, 102] := by unfold escOf; simp [e3]
                  rw [hX] at HE
                  have HX := Lib.hid HE.out
                  clear HE hX e0 e1 e2 e3
                  by_cases hzk : z < k
                  · have hes := cut_len s z k hk
                    have HES := Lib.hid hes
                    clear hes
                    go_wp2_with (first
                        | (go_at_call 51; refine (noescape_byte _ _).mono ?_; rintro e w' ⟨rfl, rfl⟩)
                        | (at_builtin; refine app_m (.tmp 59) (.tmp 63) rfl rfl rfl hown s g z k hbyr (by omega) (by omega) _ _ rfl (by omega) (by omega) (by omega) (by omega) hbel ?_; intro v2 w2 hA2 hb2 hs2; obtain ⟨A2, HA2, hA3⟩ := own_name hA2; have hl2 : A2.length ≤ 100000 := by rw [HA2.out, List.length_append, HES.out]; omega)
                        | (at_builtin; refine app_l (.tmp 89) (.tmp 90) rfl rfl rfl hA3 [92, 102] _ (by rfl) rfl (by simp only [List.length_cons, List.length_nil]; omega) (by omega) hb2 ?_; intro v9 w9 hA9 hb9 _; have HF := Lib.hid (And.intro hA9 hb9); clear hA9 hb9))
                    go_roundw
                    case rel => exact ⟨k + 1, k + 1, _, by omega, by omega, by go_num, by go_num, HF.out.1, by rw [HA2.out]; exact HX.out, HF.out.2⟩
                    case measure => simp [intOf]; omega
                  · have hzk' : z = k := by omega
                    subst hzk'
                    go_wp2_with (first
                        | (go_at_call 51; refine (noescape_byte _ _).mono ?_; rintro e w' ⟨rfl, rfl⟩)
                        | (at_builtin; refine app_l (.tmp 89) (.tmp 90) rfl rfl rfl hown [92, 102] _ (by rfl) rfl (by simp only [List.length_cons, List.length_nil]; omega) (by omega) hbel ?_; intro v9 w9 hA9 hb9 _; have HF := Lib.hid (And.intro hA9 hb9); clear hA9 hb9))
                    go_roundw
                    case rel => exact ⟨z + 1, z + 1, _, by omega, by omega, by go_num, by go_num, HF.out.1, by have := HX.out; rwa [cut_none, List.append_nil] at this, HF.out.2⟩
                    case measure => simp [intOf]; omega
                · by_cases e4 : s[k].toNat = 10
                  · have f0 : (((s[k].toNat : Nat) : Int) == 34) = false := by simp; omega
                    have f1 : (((s[k].toNat : Nat) : Int) == 92) = false := by simp; omega
                    have f2 : (((s[k].toNat : Nat) : Int) == 8) = false := by simp; omega
                    have f3 : (((s[k].toNat : Nat) : Int) == 12) = false := by simp; omega
                    have f4 : (((s[k].toNat : Nat) : Int) == 10) = true := by simp; omega
                    have hX : escOf s[k] = [92, 110] := by unfold escOf; simp [e4]
                    rw [hX] at HE
                    have HX := Lib.hid HE.out
                    clear HE hX e0 e1 e2 e3 e4
                    by_cases hzk : z < k
                    · have hes := cut_len s z k hk
                      have HES := Lib.hid hes
                      clear hes
                      go_wp2_with (first
                          | (go_at_call 51; refine (noescape_byte _ _).mono ?_; rintro e w' ⟨rfl, rfl⟩)
                          | (at_builtin; refine app_m (.tmp 59) (.tmp 63) rfl rfl rfl hown s g z k hbyr (by omega) (by omega) _ _ rfl (by omega) (by omega) (by omega) (by omega) hbel ?_; intro v2 w2 hA2 hb2 hs2; obtain ⟨A2, HA2, hA3⟩ := own_name hA2; have hl2 : A2.length ≤ 100000 := by rw [HA2.out, List.length_append, HES.out]; omega)
                          | (at_builtin; refine app_l (.tmp 94) (.tmp 95) rfl rfl rfl hA3 [92, 110] _ (by rfl) rfl (by simp only [List.length_cons, List.length_nil]; omega) (by omega) hb2 ?_; intro v9 w9 hA9 hb9 _; have HF := Lib.hid (And.intro hA9 hb9); clear hA9 hb9))
                      go_roundw
                      case rel => exact ⟨k + 1, k + 1, _, by omega, by omega, by go_num, by go_num, HF.out.1, by rw [HA2.out]; exact HX.out, HF.out.2⟩
                      case measure => simp [intOf]; omega
                    · have hzk' : z = k := by omega
                      subst hzk'
                      go_wp2_with (first
                          | (go_at_call 51; refine (noescape_byte _ _).mono ?_; rintro e w' ⟨rfl, rfl⟩)
                          | (at_builtin; refine app_l (.tmp 94) (.tmp 95) rfl rfl rfl hown [92, 110] _ (by rfl) rfl (by simp only [List.length_cons, List.length_nil]; omega) (by omega) hbel ?_; intro v9 w9 hA9 hb9 _; have HF := Lib.hid (And.intro hA9 hb9); clear hA9 hb9))
                      go_roundw
                      case rel => exact ⟨z + 1, z + 1, _, by omega, by omega, by go_num, by go_num, HF.out.1, by have := HX.out; rwa [cut_none, List.append_nil] at this, HF.out.2⟩
                      case measure => simp [intOf]; omega
                  · by_cases e5 : s[k].toNat = 13
                    · have f0 : (((s[k].toNat : Nat) : Int) == 34) = false := by simp; omega
                      have f1 : (((s[k].toNat : Nat) : Int) == 92) = false := by simp; omega
                      have f2 : (((s[k].toNat : Nat) : Int) == 8) = false := by simp; omega
                      have f3 : (((s[k].toNat : Nat) : Int) == 12) = false := by simp; omega
                      have f4 : (((s[k].toNat : Nat) : Int) == 10) = false := by simp; omega
                      have f5 : (((s[k].toNat : Nat) : Int) == 13) = true := by simp; omega
                      have hX : escOf s[k] = [92, 114] := by unfold escOf; simp [e5]
                      rw [hX] at HE
                      have HX := Lib.hid HE.out
                      clear HE hX e0 e1 e2 e3 e4 e5
                      by_cases hzk : z < k
                      · have hes := cut_len s z k hk
                        have HES := Lib.hid hes
                        clear hes
                        go_wp2_with (first
                            | (go_at_call 51; refine (noescape_byte _ _).mono ?_; rintro e w' ⟨rfl, rfl⟩)
                            | (at_builtin; refine app_m (.tmp 59) (.tmp 63) rfl rfl rfl hown s g z k hbyr (by omega) (by omega) _ _ rfl (by omega) (by omega) (by omega) (by omega) hbel ?_; intro v2 w2 hA2 hb2 hs2; obtain ⟨A2, HA2, hA3⟩ := own_name hA2; have hl2 : A2.length ≤ 100000 := by rw [HA2.out, List.length_append, HES.out]; omega)
                            | (at_builtin; refine app_l (.tmp 99) (.tmp 100) rfl rfl rfl hA3 [92, 114] _ (by rfl) rfl (by simp only [List.length_cons, List.length_nil]; omega) (by omega) hb2 ?_; intro v9 w9 hA9 hb9 _; have HF := Lib.hid (And.intro hA9 hb9); clear hA9 hb9))
                        go_roundw
                        case rel => exact ⟨k + 1, k + 1, _, by omega, by omega, by go_num, by go_num, HF.out.1, by rw [HA2.out]; exact HX.out, HF.out.2⟩
                        case measure => simp [intOf]; omega
                      · have hzk' : z = k := by omega
                        subst hzk'
                        go_wp2_with (first
                            | (go_at_call 51; refine (noescape_byte _ _).mono ?_; rintro e w' ⟨rfl, rfl⟩)
                            | (at_builtin; refine app_l (.tmp 99) (.tmp 100) rfl rfl rfl hown [92, 114] _ (by rfl) rfl (by simp only [List.length_cons, List.length_nil]; omega) (by omega) hbel ?_; intro v9 w9 hA9 hb9 _; have HF := Lib.hid (And.intro hA9 hb9); clear hA9 hb9))
                        go_roundw
                        case rel => exact ⟨z + 1, z + 1, _, by omega, by omega, by go_num, by go_num, HF.out.1, by have := HX.out; rwa [cut_none, List.append_nil] at this, HF.out.2⟩
                        case measure => simp [intOf]; omega
                    · by_cases e6 : s[k].toNat = 9
                      · have f0 : (((s[k].toNat : Nat) : Int) == 34) = false := by simp; omega
                        have f1 : (((s[k].toNat : Nat) : Int) == 92) = false := by simp; omega
                        have f2 : (((s[k].toNat : Nat) : Int) == 8) = false := by simp; omega
                        have f3 : (((s[k].toNat : Nat) : Int) == 12) = false := by simp; omega
                        have f4 : (((s[k].toNat : Nat) : Int) == 10) = false := by simp; omega
                        have f5 : (((s[k].toNat : Nat) : Int) == 13) = false := by simp; omega
                        have f6 : (((s[k].toNat : Nat) : Int) == 9) = true := by simp; omega
                        have hX : escOf s[k] = [92, 116] := by unfold escOf; simp [e6]
                        rw [hX] at HE
                        have HX := Lib.hid HE.out
                        clear HE hX e0 e1 e2 e3 e4 e5 e6
                        by_cases hzk : z < k
                        · have hes := cut_len s z k hk
                          have HES := Lib.hid hes
                          clear hes
                          go_wp2_with (first
                              | (go_at_call 51; refine (noescape_byte _ _).mono ?_; rintro e w' ⟨rfl, rfl⟩)
                              | (at_builtin; refine app_m (.tmp 59) (.tmp 63) rfl rfl rfl hown s g z k hbyr (by omega) (by omega) _ _ rfl (by omega) (by omega) (by omega) (by omega) hbel ?_; intro v2 w2 hA2 hb2 hs2; obtain ⟨A2, HA2, hA3⟩ := own_name hA2; have hl2 : A2.length ≤ 100000 := by rw [HA2.out, List.length_append, HES.out]; omega)
                              | (at_builtin; refine app_l (.tmp 104) (.tmp 105) rfl rfl rfl hA3 [92, 116] _ (by rfl) rfl (by simp only [List.length_cons, List.length_nil]; omega) (by omega) hb2 ?_; intro v9 w9 hA9 hb9 _; have HF := Lib.hid (And.intro hA9 hb9); clear hA9 hb9))
                          go_roundw
                          case rel => exact ⟨k + 1, k + 1, _, by omega, by omega, by go_num, by go_num, HF.out.1, by rw [HA2.out]; exact HX.out, HF.out.2⟩
                          case measure => simp [intOf]; omega
                        · have hzk' : z = k := by omega
                          subst hzk'
                          go_wp2_with (first
                              | (go_at_call 51; refine (noescape_byte _ _).mono ?_; rintro e w' ⟨rfl, rfl⟩)
                              | (at_builtin; refine app_l (.tmp 104) (.tmp 105) rfl rfl rfl hown [92, 116] _ (by rfl) rfl (by simp only [List.length_cons, List.length_nil]; omega) (by omega) hbel ?_; intro v9 w9 hA9 hb9 _; have HF := Lib.hid (And.intro hA9 hb9); clear hA9 hb9))
                          go_roundw
                          case rel => exact ⟨z + 1, z + 1, _, by omega, by omega, by go_num, by go_num, HF.out.1, by have := HX.out; rwa [cut_none, List.append_nil] at this, HF.out.2⟩
                          case measure => simp [intOf]; omega
                      · have f0 : (((s[k].toNat : Nat) : Int) == 34) = false := by simp; omega
                        have f1 : (((s[k].toNat : Nat) : Int) == 92) = false := by simp; omega
                        have f2 : (((s[k].toNat : Nat) : Int) == 8) = false := by simp; omega
                        have f3 : (((s[k].toNat : Nat) : Int) == 12) = false := by simp; omega
                        have f4 : (((s[k].toNat : Nat) : Int) == 10) = false := by simp; omega
                        have f5 : (((s[k].toNat : Nat) : Int) == 13) = false := by simp; omega
                        have f6 : (((s[k].toNat : Nat) : Int) == 9) = false := by simp; omega
                        have hX : escOf s[k] = [92, 117, 48, 48, hexd (s[k].toNat / 16), hexd (s[k].toNat % 16)] := by unfold escOf; simp [e0, e1, e2, e3, e4, e5, e6]
                        rw [hX] at HE
                        have HX := Lib.hid HE.out
                        clear HE hX e0 e1 e2 e3 e4 e5 e6
                        have hx1 : (0 : Int) ≤ ((s[k].toNat : Nat) : Int) / 16 := by omega
                        have hx2 : ((s[k].toNat : Nat) : Int) / 16 < 16 := by have := u8_lt s[k]; omega
                        have hand : bits .and .u8 ((s[k].toNat : Nat) : Int) 15 = ((s[k].toNat : Nat) : Int) % 16 := byte_and15 s[k]
                        have hx3 : (0 : Int) ≤ ((s[k].toNat : Nat) : Int) % 16 := by omega
                        have hx4 : ((s[k].toNat : Nat) : Int) % 16 < 16 := by omega
                        by_cases hzk : z < k
                        · have hes := cut_len s z k hk
                          have HES := Lib.hid hes
                          clear hes
                          go_wp2_with (first
                            | (go_at_call 51; refine (noescape_byte _ _).mono ?_; rintro e w' ⟨rfl, rfl⟩)
                            | (at_builtin; refine app_m (.tmp 59) (.tmp 63) rfl rfl rfl hown s g z k hbyr (by omega) (by omega) _ _ rfl (by omega) (by omega) (by omega) (by omega) hbel ?_; intro v2 w2 hA2 hb2 hs2; obtain ⟨A2, HA2, hA3⟩ := own_name hA2; have hl2 : A2.length ≤ 100000 := by rw [HA2.out, List.length_append, HES.out]; omega))
                          have hBw2 : B ≤ w2.heap.size := by omega
                          go_region_law (refine step_app (.tmp 66) (.tmp 73) rfl rfl rfl (World.ownsRow.alloc hA3 _) [92, 117, 48, 48, _, _] _ rfl w2.heap.size (heap_alloc_new w2 _) rfl (by simp only [List.length_cons, List.length_nil]; omega) (by simp; omega) (hb2.alloc hBw2 _).drew ?_; intro v9 w9 hA9 hb9 _; have HF := Lib.hid (And.intro hA9 hb9); clear hA9 hb9)
                          all_goals
                            go_wp2
                            go_roundw
                            case rel => exact ⟨k + 1, k + 1, _, by omega, by omega, by go_num, by go_num, HF.out.1, by rw [hex_get _ hx1 hx2 (s[k].toNat / 16) (by omega), hex_get _ hx3 hx4 (s[k].toNat % 16) (by omega), HA2.out]; exact HX.out, HF.out.2⟩
                            case measure => simp [intOf]; omega
                        · have hzk' : z = k := by omega
                          subst hzk'
                          go_wp2_with (go_at_call 51; refine (noescape_byte _ _).mono ?_; rintro e w' ⟨rfl, rfl⟩)
                          have hBw2 : B ≤ wr.heap.size := by omega
                          go_region_law (refine step_app (.tmp 66) (.tmp 73) rfl rfl rfl (World.ownsRow.alloc hown _) [92, 117, 48, 48, _, _] _ rfl wr.heap.size (heap_alloc_new wr _) rfl (by simp only [List.length_cons, List.length_nil]; omega) (by simp; omega) (hbel.alloc hBw2 _).drew ?_; intro v9 w9 hA9 hb9 _; have HF := Lib.hid (And.intro hA9 hb9); clear hA9 hb9)
                          all_goals
                            go_wp2
                            go_roundw
                            case rel => exact ⟨z + 1, z + 1, _, by omega, by omega, by go_num, by go_num, HF.out.1, by rw [hex_get _ hx1 hx2 (s[z].toNat / 16) (by omega), hex_get _ hx3 hx4 (s[z].toNat % 16) (by omega)]; have := HX.out; rwa [cut_none, List.append_nil] at this, HF.out.2⟩
                            case measure => simp [intOf]; omega
    · have hkk : k = s.size := by omega
      subst hkk
      have HT := Lib.hid (cplx_end HC.out.2.1)
      by_cases hzk : z < s.size
      · have hes := cut_len s z s.size (Nat.le_refl _)
        have HES := Lib.hid hes
        clear hes
        go_wp2_with (at_builtin; (refine app_m (.tmp 114) (.tmp 117) rfl rfl rfl hown s g z s.size hbyr (by omega) (by omega) _ _ rfl (by omega) (by omega) (by omega) (by omega) hbel ?_); intro v9 w9 hA9 hb9 _)
        go_ret
        refine ⟨_, rfl, ?_, hb9⟩
        rw [← HT.out]
        rwa [List.take_of_length_le (Nat.le_of_eq (size_list s).symm)] at hA9
      · have hzk' : z = s.size := by omega
        subst hzk'
        go_wp2
        go_ret
        refine ⟨_, rfl, ?_, HC.out.2.2⟩
        rw [← HT.out]
        have e : s.data.toList.drop s.size = [] := by rw [size_list]; exact List.drop_of_length_le (Nat.le_refl _)
        rw [e, List.append_nil]
        exact HC.out.1
end Go.Proofs.YtdbnconphcaclaaDoor
