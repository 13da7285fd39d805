/-
  spec.JTrue8 is true8. Conditions: texts of at most 2000 bytes; the tables of unicode/utf8 lie as their initialisers lay them.
-/
import Derived.Test.YtdbnconphcaclaaDoorLText
namespace Go.Proofs.YtdbnconphcaclaaDoor
open Go.RowKit
set_option linter.unusedVariables false

theorem true8_length : ∀ (n : Nat) (l : List UInt8), l.length ≤ n → l.length ≤ (true8 l).length ∧ (true8 l).length ≤ 3 * l.length := by
  intro n
  induction n with
  | zero =>
    intro l hl
    have : l = [] := List.eq_nil_of_length_eq_zero (by omega)
    subst this
    rw [true8_nil]
    simp
  | succ n ih =>
    intro l hl
    match l with
    | [] => rw [true8_nil]; simp
    | b :: l =>
      simp only [List.length_cons] at hl ⊢
      by_cases hb : bad (b :: l) = true
      · rw [true8_bad hb]
        have := ih l (by omega)
        simp only [List.length_append, List.length_cons, List.length_nil]
        omega
      · have hb' : bad (b :: l) = false := by simpa using hb
        rw [true8_rune hb']
        have h1 := dec_pos (b :: l)
        have h2 := dec_le (l := b :: l) (by simp)
        simp only [List.length_cons] at h2
        have := ih ((b :: l).drop (dec (b :: l)).2) (by simp only [List.length_drop, List.length_cons]; omega)
        simp only [List.length_append, List.length_take, List.length_drop, List.length_cons] at this ⊢
        omega

def T8 (s : ByteArray) (acc : List UInt8) (i : Nat) : Prop := acc ++ true8 (s.data.toList.drop i) = true8 s.data.toList

theorem t8_length {s : ByteArray} {k : Nat} {acc : List UInt8} (hs : s.size ≤ 2000) (hk : k ≤ s.size) (h : T8 s acc k) : acc.length ≤ 6000 := by
  have h1 := (true8_length _ s.data.toList (Nat.le_refl _)).2
  unfold T8 at h
  rw [← h, List.length_append, ← size_list] at h1
  omega
theorem t8_bad {s : ByteArray} {k : Nat} {acc : List UInt8} (h : T8 s acc k) (hk : k < s.size) (hb : bad (s.data.toList.drop k) = true) : T8 s (acc ++ [239, 191, 189]) (k + 1) := by
  unfold T8 at h ⊢
  rw [drop_cons s k hk] at h hb
  rw [true8_bad hb] at h
  rw [List.append_assoc]
  exact h
theorem t8_rune {s : ByteArray} {k : Nat} {acc : List UInt8} (n : Nat) (h : T8 s acc k) (hk : k < s.size) (hb : bad (s.data.toList.drop k) = false) (hn : n = (dec (s.data.toList.drop k)).2) : T8 s (acc ++ (s.data.toList.take (k + n)).drop k) (k + n) := by
  unfold T8 at h ⊢
  rw [drop_cons s k hk] at h hb hn
  rw [true8_rune hb, ← hn, ← drop_cons s k hk, List.drop_drop] at h
  rw [List.append_assoc, List.drop_take, show k + n - k = n by omega]
  exact h

set_option maxRecDepth 100000 in
set_option maxHeartbeats 1000000 in
theorem jtrue8 (s : ByteArray) (w : World) (hs : s.size ≤ 2000) (hT : Lib.Utf8Tabs 0 1 w) :
    Calls Tryd.prog 13 #[.string s] w fun e w' => e = .returned (.string ⟨(true8 s.data.toList).toArray⟩) ∧ Below w.heap.size w w' := by
  have HT := Lib.hid hT
  have h2 := tabs_size hT
  clear hT
  go_enter Tryd.func13, Tryd.ntmps13
  go_wp2
  go_loopw [3, 4] (fun v i wr => ∃ (k : Nat) (acc : List UInt8), k ≤ s.size ∧ i = .int .i64 k ∧ OwnB wr w.heap.size v acc ∧ T8 s acc k ∧ Below w.heap.size w wr) (fun _ i _ => s.size - (intOf i).toNat)
  case atStart => exact ⟨0, [], Nat.zero_le _, rfl, OwnB.nil _ _, by simp [T8], Below.refl _ _⟩
  case round =>
    obtain ⟨k, acc, hk, rfl, hown, ht8, hbel⟩ := hrel
    have hlen := t8_length hs hk ht8
    have hsz := hbel.size
    have hT := tabs_keep HT.out hbel h2
    have HB := Lib.hid ht8
    clear ht8
    by_cases hlt : k < s.size
    · by_cases hg : bad (s.data.toList.drop k) = true
      · have hr := bad_iff.1 hg
        have HR := Lib.hid (And.intro hr (t8_bad HB.out hlt hg))
        clear hr hg
        go_wp2_with (first
          | (go_at_call 33; refine (decode_call s k 65533 1 _ hlt hT (by rw [HR.out.1.1]; rfl) (by rw [HR.out.1.2]; rfl)).mono ?_; rintro e w1 ⟨rfl, hbw⟩; have hown1 := hown.below hbw; have hsz1 := hbw.size; have hbel1 := hbel.trans (hbw.mono (by omega)))
          | (at_builtin; refine app_s (.tmp 24) _ rfl rfl rfl hown1 ⟨#[239, 191, 189]⟩ rfl (by show _ + 3 ≤ _; omega) (by omega) hbel1 ?_; intro v9 w9 hA9 hb9 _; have HF := Lib.hid (And.intro hA9 hb9); clear hA9 hb9))
        go_roundw
        case rel => exact ⟨k + 1, _, by omega, by go_num, HF.out.1, HR.out.2, HF.out.2⟩
        case measure => simp [intOf]; omega
      · have hg' : bad (s.data.toList.drop k) = false := by simpa using hg
        obtain ⟨r, hr⟩ : ∃ r : Int, r = (dec (s.data.toList.drop k)).1 := ⟨_, rfl⟩
        obtain ⟨n, hn⟩ : ∃ n : Nat, n = (dec (s.data.toList.drop k)).2 := ⟨_, rfl⟩
        have h1n : 1 ≤ n := by rw [hn]; exact dec_pos _
        have hnle : k + n ≤ s.size := by
          have := dec_le (l := s.data.toList.drop k) (by intro h; rw [List.drop_eq_nil_iff, ← size_list] at h; omega)
          rw [List.length_drop, ← size_list, ← hn] at this
          omega
        have hstep := t8_rune n HB.out hlt hg' hn
        have hcase : (r == 65533) = false ∨ ¬ (n : Int) < 2 := by
          rcases Nat.lt_or_ge n 2 with h | h
          · left
            have := not_bad hg'
            simp
            intro h3
            exact this ⟨by omega, by omega⟩
          · right; omega
        have HR := Lib.hid (And.intro hr (And.intro (show (n : Int) = (dec (s.data.toList.drop k)).2 by rw [hn]) hstep))
        clear hr hn hg hg' hstep
        have hes : (s.extract k (k + n)).size = n := by rw [cut_size s k (k + n) hnle]; omega
        have HES := Lib.hid hes
        clear hes
        rcases hcase with hc | hc
        · go_wp2_with (first
            | (go_at_call 33; refine (decode_call s k r n _ hlt hT HR.out.1 HR.out.2.1).mono ?_; rintro e w1 ⟨rfl, hbw⟩; have hown1 := hown.below hbw; have hsz1 := hbw.size; have hbel1 := hbel.trans (hbw.mono (by omega)))
            | (at_builtin; refine app_s (.tmp 28) (.tmp 34) rfl rfl rfl hown1 (s.extract k (k + n)) rfl (by rw [HES.out]; omega) (by omega) hbel1 ?_; intro v9 w9 hA9 hb9 _; have HF := Lib.hid (And.intro hA9 hb9); clear hA9 hb9))
          go_roundw
          case rel => exact ⟨k + n, _, hnle, by go_num, HF.out.1, by rw [extract_list]; exact HR.out.2.2, HF.out.2⟩
          case measure => simp [intOf]; omega
        · go_wp2_with (first
            | (go_at_call 33; refine (decode_call s k r n _ hlt hT HR.out.1 HR.out.2.1).mono ?_; rintro e w1 ⟨rfl, hbw⟩; have hown1 := hown.below hbw; have hsz1 := hbw.size; have hbel1 := hbel.trans (hbw.mono (by omega)))
            | (at_builtin; refine app_s (.tmp 28) (.tmp 34) rfl rfl rfl hown1 (s.extract k (k + n)) rfl (by rw [HES.out]; omega) (by omega) hbel1 ?_; intro v9 w9 hA9 hb9 _; have HF := Lib.hid (And.intro hA9 hb9); clear hA9 hb9))
          all_goals
            go_roundw
            case rel => exact ⟨k + n, _, hnle, by go_num, HF.out.1, by rw [extract_list]; exact HR.out.2.2, HF.out.2⟩
            case measure => simp [intOf]; omega
    · have hkk : k = s.size := by omega
      have hacc : acc = true8 s.data.toList := by
        have := HB.out
        unfold T8 at this
        rw [List.drop_eq_nil_of_le (by rw [hkk]; exact Nat.le_of_eq (size_list s).symm), true8_nil, List.append_nil] at this
        exact this
      have ht := text_of_own hown
      rw [hacc] at ht
      have HF := Lib.hid hbel
      clear hkk hacc hbel
      go_wp2
      go_ret
      exact ⟨rfl, HF.out⟩
end Go.Proofs.YtdbnconphcaclaaDoor
