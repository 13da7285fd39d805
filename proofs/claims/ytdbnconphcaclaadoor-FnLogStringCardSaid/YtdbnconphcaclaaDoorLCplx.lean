/-
  zerolog's appendStringComplex: what is left of a text is written as esc says. Conditions: texts of at most 2000 bytes; the tables of unicode/utf8 lie as their initialisers lay them.
-/
import Derived.Test.YtdbnconphcaclaaDoorLString
import Derived.Deep.RegionLaw
import Derived.StillTailTactics
namespace Go.Proofs.YtdbnconphcaclaaDoor
open Go.RowKit
set_option linter.unusedVariables false

theorem size_list (s : ByteArray) : s.size = s.data.toList.length := Lib.size_eq s
theorem extract_list (s : ByteArray) (a b : Nat) : (s.extract a b).data.toList = (s.data.toList.take b).drop a := by
  rw [Lib.extract_data, ← List.drop_take]
theorem extract_end (s : ByteArray) (i : Nat) : s.extract i s.size = ⟨(s.data.toList.drop i).toArray⟩ := by
  apply Go.WideShapes.bytes_inj
  rw [Lib.extract_to_end]
theorem own_cut {w w' : World} {B a b : Nat} {v v' : Value} {acc : List UInt8} {s : ByteArray} (h : OwnB w B v acc)
    (ho : w'.ownsRow B 5 1 v' (acc.length + (s.extract a b).size) (bytesV acc ++ Lib.strCells (s.extract a b))) : OwnB w' B v' (acc ++ (s.data.toList.take b).drop a) := by
  refine h.more ho ?_ ?_
  · unfold Lib.strCells bytesV; rw [extract_list]
  · rw [size_list, extract_list]
theorem own_str {w w' : World} {B : Nat} {v v' : Value} {acc l : List UInt8} (h : OwnB w B v acc)
    (ho : w'.ownsRow B 5 1 v' (acc.length + (ByteArray.mk l.toArray).size) (bytesV acc ++ Lib.strCells ⟨l.toArray⟩)) : OwnB w' B v' (acc ++ l) := by
  refine h.more ho ?_ ?_
  · rfl
  · rw [size_list]

theorem decode_call (s : ByteArray) (i : Nat) (r k : Int) (w : World) (hi : i < s.size) (hT : Lib.Utf8Tabs 0 1 w) (hr : r = (dec (s.data.toList.drop i)).1) (hk : k = (dec (s.data.toList.drop i)).2) :
    Calls Tryd.prog 33 #[.string (s.extract i s.size)] w fun e w' => e = .returned (.tuple #[.int .i32 r, .int .i64 k]) ∧ Below w.heap.size w w' := by
  have hne : s.data.toList.drop i ≠ [] := by
    intro h
    rw [List.drop_eq_nil_iff] at h
    rw [size_list] at hi
    omega
  have h := Tryd.utf8_DecodeRuneInString (s.extract i s.size) w hT
  rw [extract_end, decodeGo_mk _ hne, ← hr, ← hk, ← extract_end] at h
  exact h

theorem own_cut' {w w' : World} {B a b : Nat} {v v' : Value} {acc : List UInt8} {s : ByteArray} (h : OwnB w B v acc) (hb : b ≤ s.size)
    (ho : w'.ownsRow B 5 1 v' (acc.length + (b - a)) (bytesV acc ++ Lib.strCells (s.extract a b))) : OwnB w' B v' (acc ++ (s.data.toList.take b).drop a) := by
  refine own_cut h ?_
  have : (s.extract a b).size = b - a := by rw [size_list, extract_list, List.length_drop, List.length_take, ← size_list]; omega
  rw [this]
  exact ho
theorem cut_size (s : ByteArray) (a b : Nat) (hb : b ≤ s.size) : (s.extract a b).size = b - a := by
  rw [size_list, extract_list, List.length_drop, List.length_take, ← size_list]; omega
theorem own_name {w : World} {B : Nat} {v : Value} {l : List UInt8} (h : OwnB w B v l) : ∃ A, Hid (A = l) ∧ OwnB w B v A := ⟨l, rfl, h⟩
/-- What the walk carries: the bytes gathered, what stands between start and i, and what is still to be written, make T. -/
def Cplx (s : ByteArray) (T acc : List UInt8) (st i : Nat) : Prop := acc ++ (s.data.toList.take i).drop st ++ esc (s.data.toList.drop i) = T
theorem drop_cons (s : ByteArray) (i : Nat) (h : i < s.size) : s.data.toList.drop i = s[i] :: s.data.toList.drop (i + 1) := by
  rw [List.drop_eq_getElem_cons (by rw [← size_list]; exact h)]
  rfl
theorem take_snoc (s : ByteArray) (k : Nat) (h : k < s.size) : s.data.toList.take (k + 1) = s.data.toList.take k ++ [s[k]] := by
  rw [List.take_succ_eq_append_getElem (by simpa using h)]; rfl

section
variable {s : ByteArray} {T acc : List UInt8} {z k : Nat}
theorem cut_more (s : ByteArray) (z k n : Nat) (hz : z ≤ k) (hn : k + n ≤ s.size) : (s.data.toList.take (k + n)).drop z = (s.data.toList.take k).drop z ++ (s.data.toList.drop k).take n := by
  rw [List.take_add, List.drop_append_of_le_length (by rw [List.length_take, ← size_list]; omega)]
theorem cplx_rune (n : Nat) (h : Cplx s T acc z k) (hz : z ≤ k) (hk : k < s.size) (hb : 128 ≤ s[k].toNat) (hg : bad (s.data.toList.drop k) = false) (hn : n = (dec (s.data.toList.drop k)).2) : k + n ≤ s.size ∧ Cplx s T acc z (k + n) := by
  have hne : s.data.toList.drop k ≠ [] := by rw [drop_cons s k hk]; simp
  have hle := dec_le hne
  rw [List.length_drop, ← size_list, ← hn] at hle
  refine ⟨by omega, ?_⟩
  unfold Cplx at h ⊢
  rw [cut_more s z k n hz (by omega), ← h]
  have e := drop_cons s k hk
  rw [e] at hg hn
  have he : esc (s.data.toList.drop k) = (s.data.toList.drop k).take n ++ esc (s.data.toList.drop (k + n)) := by
    rw [← List.drop_drop, e, hn]
    exact esc_rune hb hg
  rw [he]
  simp
theorem cplx_plain (h : Cplx s T acc z k) (hz : z ≤ k) (hk : k < s.size) (he : nEsc s[k] = true) : Cplx s T acc z (k + 1) := by
  unfold Cplx at h ⊢
  rw [cut_more s z k 1 hz (by omega), ← h, drop_cons s k hk, esc_plain he]
  simp
theorem cplx_bad (h : Cplx s T acc z k) (hz : z ≤ k) (hk : k < s.size) (hb : 128 ≤ s[k].toNat) (hg : bad (s.data.toList.drop k) = true) : Cplx s T (acc ++ (s.data.toList.take k).drop z ++ [92, 117, 102, 102, 102, 100]) (k + 1) (k + 1) := by
  have e := drop_cons s k hk
  rw [e] at hg
  unfold Cplx at h ⊢
  rw [← h, e, esc_bad hb hg]
  simp
theorem cplx_esc (h : Cplx s T acc z k) (hz : z ≤ k) (hk : k < s.size) (hb : s[k].toNat < 128) (he : nEsc s[k] = false) : Cplx s T (acc ++ (s.data.toList.take k).drop z ++ escOf s[k]) (k + 1) (k + 1) := by
  unfold Cplx at h ⊢
  rw [← h, drop_cons s k hk, esc_esc hb he]
  simp
theorem cplx_end (h : Cplx s T acc z s.size) : acc ++ s.data.toList.drop z = T := by
  unfold Cplx at h
  rw [size_list, List.take_of_length_le (Nat.le_refl _), List.drop_of_length_le (Nat.le_refl _), esc_nil, List.append_nil] at h
  exact h
theorem cplx_len (h : Cplx s T acc z k) (hz : z ≤ k) (hk : k ≤ s.size) : acc.length + (k - z) ≤ T.length := by
  unfold Cplx at h
  rw [← h, List.length_append, List.length_append, List.length_drop, List.length_take, ← size_list]
  omega
theorem cut_none (s : ByteArray) (k : Nat) : (s.data.toList.take k).drop k = [] := by
  apply List.drop_eq_nil_of_le
  rw [List.length_take]
  omega
end

theorem hex_get (j : Int) (h0 : 0 ≤ j) (h1 : j < 16) (n : Nat) (hn : (n : Int) = j) (p : j.toNat < (ByteArray.mk #[48, 49, 50, 51, 52, 53, 54, 55, 56, 57, 97, 98, 99, 100, 101, 102]).size) : (ByteArray.mk #[48, 49, 50, 51, 52, 53, 54, 55, 56, 57, 97, 98, 99, 100, 101, 102])[j.toNat]'p = hexd n := by
  subst hn
  have h : n = 0 ∨ n = 1 ∨ n = 2 ∨ n = 3 ∨ n = 4 ∨ n = 5 ∨ n = 6 ∨ n = 7 ∨ n = 8 ∨ n = 9 ∨ n = 10 ∨ n = 11 ∨ n = 12 ∨ n = 13 ∨ n = 14 ∨ n = 15 := by omega
  rcases h with rfl | rfl | rfl | rfl | rfl | rfl | rfl | rfl | rfl | rfl | rfl | rfl | rfl | rfl | rfl | rfl <;> rfl
theorem byte_and15 (b : UInt8) : bits .and .u8 ((b.toNat : Nat) : Int) 15 = ((b.toNat : Nat) : Int) % 16 := by
  have h : ∀ n : Nat, n < 256 → bits .and .u8 (n : Int) 15 = (n : Int) % 16 := by decide +kernel
  exact h _ (u8_lt b)
def CplxRet (B : Nat) (w : World) (T : List UInt8) (e : Ending) (w' : World) : Prop := ∃ v, e = .returned v ∧ OwnB w' B v T ∧ Below B w w'
theorem tabs_keep {w w' : World} {B : Nat} (h : Lib.Utf8Tabs 0 1 w) (hb : Below B w w') (h2 : 2 ≤ B) : Lib.Utf8Tabs 0 1 w' :=
  ⟨fun c hc => (hb.cell (p := ⟨0, c, none⟩) (by show 0 < B; omega)).trans (h.1 c hc), fun i hi => ⟨(hb.cell (p := ⟨1, 2 * i, none⟩) (by show 1 < B; omega)).trans (h.2 i hi).1, (hb.cell (p := ⟨1, 2 * i + 1, none⟩) (by show 1 < B; omega)).trans (h.2 i hi).2⟩⟩

set_option maxRecDepth 100000 in
set_option maxHeartbeats 8000000 in
theorem complex_any (s : ByteArray) (i0 B : Nat) (v0 : Value) (xs T : List UInt8) (w : World) (hs : s.size ≤ 2000) (hi0 : i0 ≤ s.size) (hown : OwnB w B v0 xs) (hB : B ≤ w.heap.size) (hB2 : 2 ≤ B) (hT : Lib.Utf8Tabs 0 1 w) (hc : Cplx s T xs 0 i0) (hTl : T.length ≤ 100000) :
    Calls Tryd.prog 52 #[v0, .string s, .int .i64 i0] w (CplxRet B w T) := by
  have H0 := Lib.hid (And.intro hown (And.intro hT hc))
  clear hown hT hc
  go_enter Tryd.func52, Tryd.ntmps52
  go_wp2
  go_loopw [0, 2, 7] (fun v i st wr => ∃ (k z : Nat) (acc : List UInt8), k ≤ s.size ∧ z ≤ k ∧ i = .int .i64 k ∧ st = .int .i64 z ∧ OwnB wr B v acc ∧ Cplx s T acc z k ∧ Below B w wr) (fun _ i _ _ => s.size - (intOf i).toNat)
  case atStart => exact ⟨i0, 0, xs, hi0, Nat.zero_le _, rfl, rfl, H0.out.1, H0.out.2.2, Below.refl _ _⟩
  case round =>
    obtain ⟨k, z, acc, hk, hz, rfl, rfl, hown, hc, hbel⟩ := hrel
    have hsz := hbel.size
    have hT := tabs_keep H0.out.2.1 hbel hB2
    have hlen := cplx_len hc hz hk
    have HC := Lib.hid (And.intro hown (And.intro hc hbel))
    clear hc
    by_cases hlt : k < s.size
    · by_cases hb128 : 128 ≤ s[k].toNat
      · have hbi : (128 : Int) ≤ ((s[k].toNat : Nat) : Int) := by omega
        by_cases hg : bad (s.data.toList.drop k) = true
        · have HR := Lib.hid (And.intro (bad_iff.1 hg) (cplx_bad HC.out.2.1 hz hlt hb128 hg))
          clear hg
          by_cases hzk : z < k
          · have hes := cut_size s z k hk
            have HES := Lib.hid hes
            clear hes
            go_wp2_with (first
              | (go_at_call 33; refine (decode_call s k 65533 1 _ hlt hT (by rw [HR.out.1.1]; rfl) (by rw [HR.out.1.2]; rfl)).mono ?_; rintro e w1 ⟨rfl, hbw⟩; have hown1 := hown.below hbw; have hsz1 := hbw.size; have hbel1 := hbel.trans (hbw.mono (by omega)))
              | (at_builtin; refine app_s (.tmp 36) (.tmp 40) rfl rfl rfl hown1 (s.extract z k) rfl (by rw [HES.out]; omega) (by omega) hbel1 ?_; intro v2 w2 hA2 hb2 hs2; obtain ⟨A2, HA2, hA3⟩ := own_name hA2; have hl2 : A2.length ≤ 100000 := by rw [HA2.out, List.length_append, ← size_list, HES.out]; omega)
              | (at_builtin; refine app_s (.tmp 42) _ rfl rfl rfl hA3 ⟨#[92, 117, 102, 102, 102, 100]⟩ rfl (by show _ + 6 ≤ _; omega) (by omega) hb2 ?_; intro v9 w9 hA9 hb9 _; have HF := Lib.hid (And.intro hA9 hb9); clear hA9 hb9))
            go_roundw
            case rel => exact ⟨k + 1, k + 1, _, by omega, by omega, by go_num, by go_num, HF.out.1, by rw [HA2.out, extract_list]; exact HR.out.2, HF.out.2⟩
            case measure => simp [intOf]; omega
          · have hzk' : z = k := by omega
            subst hzk'
            go_wp2_with (first
              | (go_at_call 33; refine (decode_call s z 65533 1 _ hlt hT (by rw [HR.out.1.1]; rfl) (by rw [HR.out.1.2]; rfl)).mono ?_; rintro e w1 ⟨rfl, hbw⟩; have hown1 := hown.below hbw; have hsz1 := hbw.size; have hbel1 := hbel.trans (hbw.mono (by omega)))
              | (at_builtin; refine app_s (.tmp 42) _ rfl rfl rfl hown1 ⟨#[92, 117, 102, 102, 102, 100]⟩ rfl (by show _ + 6 ≤ _; omega) (by omega) hbel1 ?_; intro v9 w9 hA9 hb9 _; have HF := Lib.hid (And.intro hA9 hb9); clear hA9 hb9))
            go_roundw
            case rel => exact ⟨z + 1, z + 1, _, by omega, by omega, by go_num, by go_num, HF.out.1, by have := HR.out.2; rwa [cut_none, List.append_nil] at this, HF.out.2⟩
            case measure => simp [intOf]; omega
        · obtain ⟨r, hr⟩ : ∃ r : Int, r = (dec (s.data.toList.drop k)).1 := ⟨_, rfl⟩
          obtain ⟨n, hn⟩ : ∃ n : Nat, n = (dec (s.data.toList.drop k)).2 := ⟨_, rfl⟩
          have hg' : bad (s.data.toList.drop k) = false := by simpa using hg
          obtain ⟨q1, q2⟩ := cplx_rune n HC.out.2.1 hz hlt hb128 hg' hn
          have hn2 : 2 ≤ n := by
            have := drop_cons s k hlt
            rw [this] at hg' hn
            rw [hn]
            exact dec_two hb128 hg'
          have HR := Lib.hid (And.intro hr (And.intro (show (n : Int) = (dec (s.data.toList.drop k)).2 by rw [hn]) q2))
          have hn1 : ((n : Int) == 1) = false := by simp; omega
          clear hr hn q2 hg hg'
          go_wp2_with (go_at_call 33; refine (decode_call s k r n _ hlt hT HR.out.1 HR.out.2.1).mono ?_; rintro e w' ⟨rfl, hbw⟩)
          all_goals
            go_roundw
            case rel => exact ⟨k + n, z, acc, q1, by omega, by go_num, rfl, HC.out.1.below hbw, HR.out.2.2, hbel.trans (hbw.mono (by omega))⟩
            case measure => simp [intOf]; omega
      · have hbi : ((s[k].toNat : Nat) : Int) < 128 := by omega
        by_cases he : nEsc s[k] = true
        · go_wp2_with (go_at_call 51; refine (noescape_byte _ _).mono ?_; rintro e w' ⟨rfl, rfl⟩)
          go_roundw
          case rel => exact ⟨k + 1, z, acc, by omega, by omega, by go_num, rfl, HC.out.1, cplx_plain HC.out.2.1 hz hlt he, HC.out.2.2⟩
          case measure => simp [intOf]; omega
        · have he' : nEsc s[k] = false := by simpa using he
          have HE := Lib.hid (cplx_esc HC.out.2.1 hz hlt (by omega) he')
          clear he
          by_cases e0 : s[k].toNat = 34
          · have f0 : (((s[k].toNat : Nat) : Int) == 34) = true := by simp; omega
            have hX : escOf s[k] = [92, s[k]] := by unfold escOf; simp [e0]
            rw [hX] at HE
            have HX := Lib.hid HE.out
            clear HE hX e0
            by_cases hzk : z < k
            · have hes := cut_size s z k hk
              have HES := Lib.hid hes
              clear hes
              go_wp2_with (first
                  | (go_at_call 51; refine (noescape_byte _ _).mono ?_; rintro e w' ⟨rfl, rfl⟩)
                  | (at_builtin; refine app_s (.tmp 58) (.tmp 62) rfl rfl rfl hown (s.extract z k) rfl (by rw [HES.out]; omega) (by omega) hbel ?_; intro v2 w2 hA2 hb2 hs2; obtain ⟨A2, HA2, hA3⟩ := own_name hA2; have hl2 : A2.length ≤ 100000 := by rw [HA2.out, List.length_append, ← size_list, HES.out]; omega)
                  | (at_builtin; refine app_l (.tmp 77) (.tmp 79) rfl rfl rfl hA3 [92, s[k]] _ (by rfl) rfl (by simp only [List.length_cons, List.length_nil]; omega) (by omega) hb2 ?_; intro v9 w9 hA9 hb9 _; have HF := Lib.hid (And.intro hA9 hb9); clear hA9 hb9))
              go_roundw
              case rel => exact ⟨k + 1, k + 1, _, by omega, by omega, by go_num, by go_num, HF.out.1, by rw [HA2.out, extract_list]; exact HX.out, HF.out.2⟩
              case measure => simp [intOf]; omega
            · have hzk' : z = k := by omega
              subst hzk'
              go_wp2_with (first
                  | (go_at_call 51; refine (noescape_byte _ _).mono ?_; rintro e w' ⟨rfl, rfl⟩)
                  | (at_builtin; refine app_l (.tmp 77) (.tmp 79) rfl rfl rfl hown [92, s[z]] _ (by rfl) rfl (by simp only [List.length_cons, List.length_nil]; omega) (by omega) hbel ?_; intro v9 w9 hA9 hb9 _; have HF := Lib.hid (And.intro hA9 hb9); clear hA9 hb9))
              go_roundw
              case rel => exact ⟨z + 1, z + 1, _, by omega, by omega, by go_num, by go_num, HF.out.1, by have := HX.out; rwa [cut_none, List.append_nil] at this, HF.out.2⟩
              case measure => simp [intOf]; omega
          · by_cases e1 : s[k].toNat = 92
            · have f0 : (((s[k].toNat : Nat) : Int) == 34) = false := by simp; omega
              have f1 : (((s[k].toNat : Nat) : Int) == 92) = true := by simp; omega
              have hX : escOf s[k] = [92, s[k]] := by unfold escOf; simp [e1]
              rw [hX] at HE
              have HX := Lib.hid HE.out
              clear HE hX e0 e1
              by_cases hzk : z < k
              · have hes := cut_size s z k hk
                have HES := Lib.hid hes
                clear hes
                go_wp2_with (first
                    | (go_at_call 51; refine (noescape_byte _ _).mono ?_; rintro e w' ⟨rfl, rfl⟩)
                    | (at_builtin; refine app_s (.tmp 58) (.tmp 62) rfl rfl rfl hown (s.extract z k) rfl (by rw [HES.out]; omega) (by omega) hbel ?_; intro v2 w2 hA2 hb2 hs2; obtain ⟨A2, HA2, hA3⟩ := own_name hA2; have hl2 : A2.length ≤ 100000 := by rw [HA2.out, List.length_append, ← size_list, HES.out]; omega)
                    | (at_builtin; refine app_l (.tmp 77) (.tmp 79) rfl rfl rfl hA3 [92, s[k]] _ (by rfl) rfl (by simp only [List.length_cons, List.length_nil]; omega) (by omega) hb2 ?_; intro v9 w9 hA9 hb9 _; have HF := Lib.hid (And.intro hA9 hb9); clear hA9 hb9))
                go_roundw
                case rel => exact ⟨k + 1, k + 1, _, by omega, by omega, by go_num, by go_num, HF.out.1, by rw [HA2.out, extract_list]; exact HX.out, HF.out.2⟩
                case measure => simp [intOf]; omega
              · have hzk' : z = k := by omega
                subst hzk'
                go_wp2_with (first
                    | (go_at_call 51; refine (noescape_byte _ _).mono ?_; rintro e w' ⟨rfl, rfl⟩)
                    | (at_builtin; refine app_l (.tmp 77) (.tmp 79) rfl rfl rfl hown [92, s[z]] _ (by rfl) rfl (by simp only [List.length_cons, List.length_nil]; omega) (by omega) hbel ?_; intro v9 w9 hA9 hb9 _; have HF := Lib.hid (And.intro hA9 hb9); clear hA9 hb9))
                go_roundw
                case rel => exact ⟨z + 1, z + 1, _, by omega, by omega, by go_num, by go_num, HF.out.1, by have := HX.out; rwa [cut_none, List.append_nil] at this, HF.out.2⟩
                case measure => simp [intOf]; omega
            · by_cases e2 : s[k].toNat = 8
              · have f0 : (((s[k].toNat : Nat) : Int) == 34) = false := by simp; omega
                have f1 : (((s[k].toNat : Nat) : Int) == 92) = false := by simp; omega
                have f2 : (((s[k].toNat : Nat) : Int) == 8) = true := by simp; omega
                have hX : escOf s[k] = [92, 98] := by unfold escOf; simp [e2]
                rw [hX] at HE
                have HX := Lib.hid HE.out
                clear HE hX e0 e1 e2
                by_cases hzk : z < k
                · have hes := cut_size s z k hk
                  have HES := Lib.hid hes
                  clear hes
                  go_wp2_with (first
                      | (go_at_call 51; refine (noescape_byte _ _).mono ?_; rintro e w' ⟨rfl, rfl⟩)
                      | (at_builtin; refine app_s (.tmp 58) (.tmp 62) rfl rfl rfl hown (s.extract z k) rfl (by rw [HES.out]; omega) (by omega) hbel ?_; intro v2 w2 hA2 hb2 hs2; obtain ⟨A2, HA2, hA3⟩ := own_name hA2; have hl2 : A2.length ≤ 100000 := by rw [HA2.out, List.length_append, ← size_list, HES.out]; omega)
                      | (at_builtin; refine app_l (.tmp 83) (.tmp 84) rfl rfl rfl hA3 [92, 98] _ (by rfl) rfl (by simp only [List.length_cons, List.length_nil]; omega) (by omega) hb2 ?_; intro v9 w9 hA9 hb9 _; have HF := Lib.hid (And.intro hA9 hb9); clear hA9 hb9))
                  go_roundw
                  case rel => exact ⟨k + 1, k + 1, _, by omega, by omega, by go_num, by go_num, HF.out.1, by rw [HA2.out, extract_list]; exact HX.out, HF.out.2⟩
                  case measure => simp [intOf]; omega
                · have hzk' : z = k := by omega
                  subst hzk'
                  go_wp2_with (first
                      | (go_at_call 51; refine (noescape_byte _ _).mono ?_; rintro e w' ⟨rfl, rfl⟩)
                      | (at_builtin; refine app_l (.tmp 83) (.tmp 84) rfl rfl rfl hown [92, 98] _ (by rfl) rfl (by simp only [List.length_cons, List.length_nil]; omega) (by omega) hbel ?_; intro v9 w9 hA9 hb9 _; have HF := Lib.hid (And.intro hA9 hb9); clear hA9 hb9))
                  go_roundw
                  case rel => exact ⟨z + 1, z + 1, _, by omega, by omega, by go_num, by go_num, HF.out.1, by have := HX.out; rwa [cut_none, List.append_nil] at this, HF.out.2⟩
                  case measure => simp [intOf]; omega
              · by_cases e3 : s[k].toNat = 12
                · have f0 : (((s[k].toNat : Nat) : Int) == 34) = false := by simp; omega
                  have f1 : (((s[k].toNat : Nat) : Int) == 92) = false := by simp; omega
                  have f2 : (((s[k].toNat : Nat) : Int) == 8) = false := by simp; omega
                  have f3 : (((s[k].toNat : Nat) : Int) == 12) = true := by simp; omega
                  have hX : escOf s[k] = [92, 102] := by unfold escOf; simp [e3]
                  rw [hX] at HE
                  have HX := Lib.hid HE.out
                  clear HE hX e0 e1 e2 e3
                  by_cases hzk : z < k
                  · have hes := cut_size s z k hk
                    have HES := Lib.hid hes
                    clear hes
                    go_wp2_with (first
                        | (go_at_call 51; refine (noescape_byte _ _).mono ?_; rintro e w' ⟨rfl, rfl⟩)
                        | (at_builtin; refine app_s (.tmp 58) (.tmp 62) rfl rfl rfl hown (s.extract z k) rfl (by rw [HES.out]; omega) (by omega) hbel ?_; intro v2 w2 hA2 hb2 hs2; obtain ⟨A2, HA2, hA3⟩ := own_name hA2; have hl2 : A2.length ≤ 100000 := by rw [HA2.out, List.length_append, ← size_list, HES.out]; omega)
                        | (at_builtin; refine app_l (.tmp 88) (.tmp 89) rfl rfl rfl hA3 [92, 102] _ (by rfl) rfl (by simp only [List.length_cons, List.length_nil]; omega) (by omega) hb2 ?_; intro v9 w9 hA9 hb9 _; have HF := Lib.hid (And.intro hA9 hb9); clear hA9 hb9))
                    go_roundw
                    case rel => exact ⟨k + 1, k + 1, _, by omega, by omega, by go_num, by go_num, HF.out.1, by rw [HA2.out, extract_list]; exact HX.out, HF.out.2⟩
                    case measure => simp [intOf]; omega
                  · have hzk' : z = k := by omega
                    subst hzk'
                    go_wp2_with (first
                        | (go_at_call 51; refine (noescape_byte _ _).mono ?_; rintro e w' ⟨rfl, rfl⟩)
                        | (at_builtin; refine app_l (.tmp 88) (.tmp 89) rfl rfl rfl hown [92, 102] _ (by rfl) rfl (by simp only [List.length_cons, List.length_nil]; omega) (by omega) hbel ?_; intro v9 w9 hA9 hb9 _; have HF := Lib.hid (And.intro hA9 hb9); clear hA9 hb9))
                    go_roundw
                    case rel => exact ⟨z + 1, z + 1, _, by omega, by omega, by go_num, by go_num, HF.out.1, by have := HX.out; rwa [cut_none, List.append_nil] at this, HF.out.2⟩
                    case measure => simp [intOf]; omega
                · by_cases e4 : s[k].toNat = 10
                  · have f0 : (((s[k].toNat : Nat) : Int) == 34) = false := by simp; omega
                    have f1 : (((s[k].toNat : Nat) : Int) == 92) = false := by simp; omega
                    have f2 : (((s[k].toNat : Nat) : Int) == 8) = false := by simp; omega
                    have f3 : (((s[k].toNat : Nat) : Int) == 12) = false := by simp; omega
                    have f4 : (((s[k].toNat : Nat) : Int) == 10) = true := by simp; omega
                    have hX : escOf s[k] = [92, 110] := by unfold escOf; simp [e4]
                    rw [hX] at HE
                    have HX := Lib.hid HE.out
                    clear HE hX e0 e1 e2 e3 e4
                    by_cases hzk : z < k
                    · have hes := cut_size s z k hk
                      have HES := Lib.hid hes
                      clear hes
                      go_wp2_with (first
                          | (go_at_call 51; refine (noescape_byte _ _).mono ?_; rintro e w' ⟨rfl, rfl⟩)
                          | (at_builtin; refine app_s (.tmp 58) (.tmp 62) rfl rfl rfl hown (s.extract z k) rfl (by rw [HES.out]; omega) (by omega) hbel ?_; intro v2 w2 hA2 hb2 hs2; obtain ⟨A2, HA2, hA3⟩ := own_name hA2; have hl2 : A2.length ≤ 100000 := by rw [HA2.out, List.length_append, ← size_list, HES.out]; omega)
                          | (at_builtin; refine app_l (.tmp 93) (.tmp 94) rfl rfl rfl hA3 [92, 110] _ (by rfl) rfl (by simp only [List.length_cons, List.length_nil]; omega) (by omega) hb2 ?_; intro v9 w9 hA9 hb9 _; have HF := Lib.hid (And.intro hA9 hb9); clear hA9 hb9))
                      go_roundw
                      case rel => exact ⟨k + 1, k + 1, _, by omega, by omega, by go_num, by go_num, HF.out.1, by rw [HA2.out, extract_list]; exact HX.out, HF.out.2⟩
                      case measure => simp [intOf]; omega
                    · have hzk' : z = k := by omega
                      subst hzk'
                      go_wp2_with (first
                          | (go_at_call 51; refine (noescape_byte _ _).mono ?_; rintro e w' ⟨rfl, rfl⟩)
                          | (at_builtin; refine app_l (.tmp 93) (.tmp 94) rfl rfl rfl hown [92, 110] _ (by rfl) rfl (by simp only [List.length_cons, List.length_nil]; omega) (by omega) hbel ?_; intro v9 w9 hA9 hb9 _; have HF := Lib.hid (And.intro hA9 hb9); clear hA9 hb9))
                      go_roundw
                      case rel => exact ⟨z + 1, z + 1, _, by omega, by omega, by go_num, by go_num, HF.out.1, by have := HX.out; rwa [cut_none, List.append_nil] at this, HF.out.2⟩
                      case measure => simp [intOf]; omega
                  · by_cases e5 : s[k].toNat = 13
                    · have f0 : (((s[k].toNat : Nat) : Int) == 34) = false := by simp; omega
                      have f1 : (((s[k].toNat : Nat) : Int) == 92) = false := by simp; omega
                      have f2 : (((s[k].toNat : Nat) : Int) == 8) = false := by simp; omega
                      have f3 : (((s[k].toNat : Nat) : Int) == 12) = false := by simp; omega
                      have f4 : (((s[k].toNat : Nat) : Int) == 10) = false := by simp; omega
                      have f5 : (((s[k].toNat : Nat) : Int) == 13) = true := by simp; omega
                      have hX : escOf s[k] = [92, 114] := by unfold escOf; simp [e5]
                      rw [hX] at HE
                      have HX := Lib.hid HE.out
                      clear HE hX e0 e1 e2 e3 e4 e5
                      by_cases hzk : z < k
                      · have hes := cut_size s z k hk
                        have HES := Lib.hid hes
                        clear hes
                        go_wp2_with (first
                            | (go_at_call 51; refine (noescape_byte _ _).mono ?_; rintro e w' ⟨rfl, rfl⟩)
                            | (at_builtin; refine app_s (.tmp 58) (.tmp 62) rfl rfl rfl hown (s.extract z k) rfl (by rw [HES.out]; omega) (by omega) hbel ?_; intro v2 w2 hA2 hb2 hs2; obtain ⟨A2, HA2, hA3⟩ := own_name hA2; have hl2 : A2.length ≤ 100000 := by rw [HA2.out, List.length_append, ← size_list, HES.out]; omega)
                            | (at_builtin; refine app_l (.tmp 98) (.tmp 99) rfl rfl rfl hA3 [92, 114] _ (by rfl) rfl (by simp only [List.length_cons, List.length_nil]; omega) (by omega) hb2 ?_; intro v9 w9 hA9 hb9 _; have HF := Lib.hid (And.intro hA9 hb9); clear hA9 hb9))
                        go_roundw
                        case rel => exact ⟨k + 1, k + 1, _, by omega, by omega, by go_num, by go_num, HF.out.1, by rw [HA2.out, extract_list]; exact HX.out, HF.out.2⟩
                        case measure => simp [intOf]; omega
                      · have hzk' : z = k := by omega
                        subst hzk'
                        go_wp2_with (first
                            | (go_at_call 51; refine (noescape_byte _ _).mono ?_; rintro e w' ⟨rfl, rfl⟩)
                            | (at_builtin; refine app_l (.tmp 98) (.tmp 99) rfl rfl rfl hown [92, 114] _ (by rfl) rfl (by simp only [List.length_cons, List.length_nil]; omega) (by omega) hbel ?_; intro v9 w9 hA9 hb9 _; have HF := Lib.hid (And.intro hA9 hb9); clear hA9 hb9))
                        go_roundw
                        case rel => exact ⟨z + 1, z + 1, _, by omega, by omega, by go_num, by go_num, HF.out.1, by have := HX.out; rwa [cut_none, List.append_nil] at this, HF.out.2⟩
                        case measure => simp [intOf]; omega
                    · by_cases e6 : s[k].toNat = 9
                      · have f0 : (((s[k].toNat : Nat) : Int) == 34) = false := by simp; omega
                        have f1 : (((s[k].toNat : Nat) : Int) == 92) = false := by simp; omega
                        have f2 : (((s[k].toNat : Nat) : Int) == 8) = false := by simp; omega
                        have f3 : (((s[k].toNat : Nat) : Int) == 12) = false := by simp; omega
                        have f4 : (((s[k].toNat : Nat) : Int) == 10) = false := by simp; omega
                        have f5 : (((s[k].toNat : Nat) : Int) == 13) = false := by simp; omega
                        have f6 : (((s[k].toNat : Nat) : Int) == 9) = true := by simp; omega
                        have hX : escOf s[k] = [92, 116] := by unfold escOf; simp [e6]
                        rw [hX] at HE
                        have HX := Lib.hid HE.out
                        clear HE hX e0 e1 e2 e3 e4 e5 e6
                        by_cases hzk : z < k
                        · have hes := cut_size s z k hk
                          have HES := Lib.hid hes
                          clear hes
                          go_wp2_with (first
                              | (go_at_call 51; refine (noescape_byte _ _).mono ?_; rintro e w' ⟨rfl, rfl⟩)
                              | (at_builtin; refine app_s (.tmp 58) (.tmp 62) rfl rfl rfl hown (s.extract z k) rfl (by rw [HES.out]; omega) (by omega) hbel ?_; intro v2 w2 hA2 hb2 hs2; obtain ⟨A2, HA2, hA3⟩ := own_name hA2; have hl2 : A2.length ≤ 100000 := by rw [HA2.out, List.length_append, ← size_list, HES.out]; omega)
                              | (at_builtin; refine app_l (.tmp 103) (.tmp 104) rfl rfl rfl hA3 [92, 116] _ (by rfl) rfl (by simp only [List.length_cons, List.length_nil]; omega) (by omega) hb2 ?_; intro v9 w9 hA9 hb9 _; have HF := Lib.hid (And.intro hA9 hb9); clear hA9 hb9))
                          go_roundw
                          case rel => exact ⟨k + 1, k + 1, _, by omega, by omega, by go_num, by go_num, HF.out.1, by rw [HA2.out, extract_list]; exact HX.out, HF.out.2⟩
                          case measure => simp [intOf]; omega
                        · have hzk' : z = k := by omega
                          subst hzk'
                          go_wp2_with (first
                              | (go_at_call 51; refine (noescape_byte _ _).mono ?_; rintro e w' ⟨rfl, rfl⟩)
                              | (at_builtin; refine app_l (.tmp 103) (.tmp 104) rfl rfl rfl hown [92, 116] _ (by rfl) rfl (by simp only [List.length_cons, List.length_nil]; omega) (by omega) hbel ?_; intro v9 w9 hA9 hb9 _; have HF := Lib.hid (And.intro hA9 hb9); clear hA9 hb9))
                          go_roundw
                          case rel => exact ⟨z + 1, z + 1, _, by omega, by omega, by go_num, by go_num, HF.out.1, by have := HX.out; rwa [cut_none, List.append_nil] at this, HF.out.2⟩
                          case measure => simp [intOf]; omega
                      · have f0 : (((s[k].toNat : Nat) : Int) == 34) = false := by simp; omega
                        have f1 : (((s[k].toNat : Nat) : Int) == 92) = false := by simp; omega
                        have f2 : (((s[k].toNat : Nat) : Int) == 8) = false := by simp; omega
                        have f3 : (((s[k].toNat : Nat) : Int) == 12) = false := by simp; omega
                        have f4 : (((s[k].toNat : Nat) : Int) == 10) = false := by simp; omega
                        have f5 : (((s[k].toNat : Nat) : Int) == 13) = false := by simp; omega
                        have f6 : (((s[k].toNat : Nat) : Int) == 9) = false := by simp; omega
                        have hX : escOf s[k] = [92, 117, 48, 48, hexd (s[k].toNat / 16), hexd (s[k].toNat % 16)] := by unfold escOf; simp [e0, e1, e2, e3, e4, e5, e6]
                        rw [hX] at HE
                        have HX := Lib.hid HE.out
                        clear HE hX e0 e1 e2 e3 e4 e5 e6
                        have hx1 : (0 : Int) ≤ ((s[k].toNat : Nat) : Int) / 16 := by omega
                        have hx2 : ((s[k].toNat : Nat) : Int) / 16 < 16 := by have := u8_lt s[k]; omega
                        have hand : bits .and .u8 ((s[k].toNat : Nat) : Int) 15 = ((s[k].toNat : Nat) : Int) % 16 := byte_and15 s[k]
                        have hx3 : (0 : Int) ≤ ((s[k].toNat : Nat) : Int) % 16 := by omega
                        have hx4 : ((s[k].toNat : Nat) : Int) % 16 < 16 := by omega
                        by_cases hzk : z < k
                        · have hes := cut_size s z k hk
                          have HES := Lib.hid hes
                          clear hes
                          go_wp2_with (first
                            | (go_at_call 51; refine (noescape_byte _ _).mono ?_; rintro e w' ⟨rfl, rfl⟩)
                            | (at_builtin; refine app_s (.tmp 58) (.tmp 62) rfl rfl rfl hown (s.extract z k) rfl (by rw [HES.out]; omega) (by omega) hbel ?_; intro v2 w2 hA2 hb2 hs2; obtain ⟨A2, HA2, hA3⟩ := own_name hA2; have hl2 : A2.length ≤ 100000 := by rw [HA2.out, List.length_append, ← size_list, HES.out]; omega))
                          have hBw2 : B ≤ w2.heap.size := by omega
                          go_region_law (refine step_app (.tmp 65) (.tmp 72) rfl rfl rfl (World.ownsRow.alloc hA3 _) [92, 117, 48, 48, _, _] _ rfl w2.heap.size (heap_alloc_new w2 _) rfl (by simp only [List.length_cons, List.length_nil]; omega) (by simp; omega) (hb2.alloc hBw2 _).drew ?_; intro v9 w9 hA9 hb9 _; have HF := Lib.hid (And.intro hA9 hb9); clear hA9 hb9)
                          all_goals
                            go_wp2
                            go_roundw
                            case rel => exact ⟨k + 1, k + 1, _, by omega, by omega, by go_num, by go_num, HF.out.1, by rw [hex_get _ hx1 hx2 (s[k].toNat / 16) (by omega), hex_get _ hx3 hx4 (s[k].toNat % 16) (by omega), HA2.out, extract_list]; exact HX.out, HF.out.2⟩
                            case measure => simp [intOf]; omega
                        · have hzk' : z = k := by omega
                          subst hzk'
                          go_wp2_with (go_at_call 51; refine (noescape_byte _ _).mono ?_; rintro e w' ⟨rfl, rfl⟩)
                          have hBw2 : B ≤ wr.heap.size := by omega
                          go_region_law (refine step_app (.tmp 65) (.tmp 72) rfl rfl rfl (World.ownsRow.alloc hown _) [92, 117, 48, 48, _, _] _ rfl wr.heap.size (heap_alloc_new wr _) rfl (by simp only [List.length_cons, List.length_nil]; omega) (by simp; omega) (hbel.alloc hBw2 _).drew ?_; intro v9 w9 hA9 hb9 _; have HF := Lib.hid (And.intro hA9 hb9); clear hA9 hb9)
                          all_goals
                            go_wp2
                            go_roundw
                            case rel => exact ⟨z + 1, z + 1, _, by omega, by omega, by go_num, by go_num, HF.out.1, by rw [hex_get _ hx1 hx2 (s[z].toNat / 16) (by omega), hex_get _ hx3 hx4 (s[z].toNat % 16) (by omega)]; have := HX.out; rwa [cut_none, List.append_nil] at this, HF.out.2⟩
                            case measure => simp [intOf]; omega
    · have hkk : k = s.size := by omega
      subst hkk
      have HT := Lib.hid (cplx_end HC.out.2.1)
      by_cases hzk : z < s.size
      · have hes : (s.extract z s.size).size = s.size - z := by rw [size_list, extract_list, List.length_drop, List.length_take, ← size_list]; omega
        have HES := Lib.hid hes
        clear hes
        go_wp2_with (at_builtin; (refine app_s (.tmp 113) (.tmp 116) rfl rfl rfl hown (s.extract z s.size) rfl (by rw [HES.out]; omega) (by omega) hbel ?_); intro v9 w9 hA9 hb9 _)
        go_ret
        refine ⟨_, rfl, ?_, hb9⟩
        rw [← HT.out]
        rwa [extract_end] at hA9
      · have hzk' : z = s.size := by omega
        subst hzk'
        go_wp2
        go_ret
        refine ⟨_, rfl, ?_, HC.out.2.2⟩
        rw [← HT.out]
        have e : s.data.toList.drop s.size = [] := by rw [size_list]; exact List.drop_of_length_le (Nat.le_refl _)
        rw [e, List.append_nil]
        exact HC.out.1
end Go.Proofs.YtdbnconphcaclaaDoor
