/-
  What is still to be read of a written text: the plain law of the reader's loop. No program in it.
-/
import Derived.Test.YtdbnconphcaclaaDoorApart
import Derived.Test.YtdbnconphcaclaaDoorHex
import Derived.Lib.RuneBytes
namespace Go.Proofs.YtdbnconphcaclaaDoor
set_option linter.unusedVariables false

/-- acc is read; what is read of the rest goes in behind it and makes R. -/
def TX (s : ByteArray) (R acc : List UInt8) (i : Nat) : Prop := ∃ l, s.data.toList.drop i = esc l ++ [34] ∧ acc ++ true8 l = R

theorem drop_head {s : ByteArray} {i : Nat} {x : UInt8} {t : List UInt8} (h : s.data.toList.drop i = x :: t) : ∃ hi : i < s.size, s[i] = x ∧ s.data.toList.drop (i + 1) = t := by
  have hi : i < s.size := by
    rcases Nat.lt_or_ge i s.size with h' | h'
    · exact h'
    · rw [List.drop_eq_nil_of_le (by rw [← size_list]; exact h')] at h
      cases h
  rw [drop_cons s i hi] at h
  obtain ⟨h1, h2⟩ := List.cons.inj h
  exact ⟨hi, h1, h2⟩
theorem drop_more {s : ByteArray} {i : Nat} {a t : List UInt8} (h : s.data.toList.drop i = a ++ t) : s.data.toList.drop (i + a.length) = t := by
  rw [← List.drop_drop, h, List.drop_left']
  rfl

theorem enc_ascii {c : UInt8} (h : c.toNat < 128) : Lib.encodeRune (c.toNat : Int) = [c] := by
  unfold Lib.encodeRune
  rw [Lib.encodeRuneZ_one (by omega) (by omega)]
  simp
theorem enc_bad : Lib.encodeRune 65533 = [239, 191, 189] := by decide +kernel
theorem hexd_hx : ∀ k : Fin 16, (hexd k.val).toNat = hx k.val := by decide +kernel
def digs (a b c d : Nat) (k : Nat) : Nat := if k = 0 then a else if k = 1 then b else if k = 2 then c else d
theorem enc_cells {r : Nat} {c : UInt8} (h : r = c.toNat) (hc : c.toNat < 128) : Lib.encodeRune (r : Int) = [c] := by
  subst h
  exact enc_ascii hc
/-- The four ways in which a text goes on. -/
inductive Way (s : ByteArray) (R acc : List UInt8) (i : Nat) (hi : i < s.size) : Prop
  | done (h : s[i].toNat = 34) (he : i + 1 = s.size) (ha : acc = R)
  | rune (n : Nat) (h0 : 32 ≤ s[i].toNat) (h1 : s[i].toNat ≠ 34) (h2 : s[i].toNat ≠ 92) (hg : bad (s.data.toList.drop i) = false) (hn : n = (dec (s.data.toList.drop i)).2) (h3 : 1 ≤ n) (h4 : i + n ≤ s.size) (ht : TX s R (acc ++ (s.data.toList.take (i + n)).drop i) (i + n))
  | one (b r : Nat) (h : s[i].toNat = 92) (h1 : i + 1 < s.size) (hb : s[i + 1].toNat = b) (hr : escOne b = some r) (hr2 : r < 128) (ht : TX s R (acc ++ Lib.encodeRune r) (i + 2))
  | hex (f : Nat → Nat) (v : Nat) (h : s[i].toNat = 92) (h1 : i + 1 < s.size) (h117 : s[i + 1].toNat = 117) (h6 : i + 6 ≤ s.size) (hf : ∀ k, k < 4 → f k < 16) (hd : ∀ k (h : k < 4), s[i + 1 + 1 + k].toNat = hx (f k)) (hv : v = hv f 4) (hv2 : v < 55296 ∨ 57343 < v) (ht : TX s R (acc ++ Lib.encodeRune v) (i + 6))

theorem digs_lt {a b c d : Nat} (ha : a < 16) (hb : b < 16) (hc : c < 16) (hd : d < 16) : ∀ k, k < 4 → digs a b c d k < 16 := by
  intro k hk
  unfold digs
  split
  · exact ha
  · split
    · exact hb
    · split
      · exact hc
      · exact hd
/-- Four digits that stand there. -/
theorem digs_at {s : ByteArray} {j a b c d : Nat} {t : List UInt8} (h : s.data.toList.drop j = hexd a :: hexd b :: hexd c :: hexd d :: t) (ha : a < 16) (hb : b < 16) (hc : c < 16) (hd : d < 16) :
    ∃ h4 : j + 4 ≤ s.size, ∀ k (h : k < 4), s[j + k].toNat = hx (digs a b c d k) := by
  obtain ⟨i0, e0, t0⟩ := drop_head h
  obtain ⟨i1, e1, t1⟩ := drop_head t0
  obtain ⟨i2, e2, t2⟩ := drop_head t1
  obtain ⟨i3, e3, t3⟩ := drop_head t2
  refine ⟨by omega, fun k hk => ?_⟩
  have hk' : k = 0 ∨ k = 1 ∨ k = 2 ∨ k = 3 := by omega
  rcases hk' with rfl | rfl | rfl | rfl
  · show s[j].toNat = hx a
    rw [e0]; exact hexd_hx ⟨a, ha⟩
  · show s[j + 1].toNat = hx b
    rw [e1]; exact hexd_hx ⟨b, hb⟩
  · show s[j + 1 + 1].toNat = hx c
    rw [e2]; exact hexd_hx ⟨c, hc⟩
  · show s[j + 1 + 1 + 1].toNat = hx d
    rw [e3]; exact hexd_hx ⟨d, hd⟩

theorem tx_one {s : ByteArray} {R acc l : List UInt8} {i : Nat} {c e : UInt8} (he : s.data.toList.drop i = 92 :: e :: (esc l ++ [34])) (hc : c.toNat < 128) (ho : escOne e.toNat = some c.toNat) (ha : acc ++ c :: true8 l = R) (hi : i < s.size) : Way s R acc i hi := by
  obtain ⟨i0, e0, t0⟩ := drop_head he
  obtain ⟨i1, e1, t1⟩ := drop_head t0
  exact .one e.toNat c.toNat (by rw [e0]; rfl) i1 (by rw [e1]) ho hc ⟨l, t1, by rw [enc_ascii hc, List.append_assoc]; exact ha⟩
theorem tx_hex {s : ByteArray} {R acc l : List UInt8} {i a b c d v : Nat} {x : List UInt8} (he : s.data.toList.drop i = 92 :: 117 :: hexd a :: hexd b :: hexd c :: hexd d :: (esc l ++ [34])) (h0 : a < 16) (h1 : b < 16) (h2 : c < 16) (h3 : d < 16) (hv' : v = ((a * 16 + b) * 16 + c) * 16 + d) (hv2 : v < 55296 ∨ 57343 < v) (hx' : Lib.encodeRune v = x) (ha : acc ++ (x ++ true8 l) = R) (hi : i < s.size) : Way s R acc i hi := by
  obtain ⟨i0, e0, t0⟩ := drop_head he
  obtain ⟨i1, e1, t1⟩ := drop_head t0
  obtain ⟨g4, gd⟩ := digs_at t1 h0 h1 h2 h3
  refine .hex (digs a b c d) v (by rw [e0]; rfl) i1 (by rw [e1]; rfl) (by omega) (digs_lt h0 h1 h2 h3) gd (by rw [hv']; simp [hv, digs]) hv2 ⟨l, ?_, by rw [hx', List.append_assoc]; exact ha⟩
  have := drop_more (a := [hexd a, hexd b, hexd c, hexd d]) (t := esc l ++ [34]) t1
  exact this

theorem tx_way {s : ByteArray} {R acc : List UInt8} {i : Nat} (h : TX s R acc i) (hi : i < s.size) : Way s R acc i hi := by
  obtain ⟨l, h1, h2⟩ := h
  match l with
  | [] =>
    rw [esc_nil] at h1
    rw [true8_nil, List.append_nil] at h2
    obtain ⟨i0, e0, t0⟩ := drop_head h1
    refine .done (by rw [e0]; rfl) ?_ h2
    rw [List.drop_eq_nil_iff, ← size_list] at t0
    omega
  | c :: l =>
    by_cases hc : c.toNat < 128
    · rw [true8_ascii hc] at h2
      by_cases he : nEsc c = true
      · rw [esc_plain he] at h1
        have h1' : s.data.toList.drop i = c :: (esc l ++ [34]) := h1
        obtain ⟨i0, e0, t0⟩ := drop_head h1'
        have he2 := he
        unfold nEsc at he2
        simp only [decide_eq_true_eq] at he2
        have hd : dec (s.data.toList.drop i) = (c.toNat, 1) := by rw [h1', dec_ascii hc]
        refine .rune 1 (by rw [e0]; omega) (by rw [e0]; omega) (by rw [e0]; omega) (by rw [h1']; exact bad_ascii hc) (by rw [hd]) (by decide) (by omega) ⟨l, t0, ?_⟩
        rw [take_snoc s i hi, List.drop_append_of_le_length (by rw [List.length_take, ← size_list]; omega), List.drop_eq_nil_of_le (by rw [List.length_take, ← size_list]; omega), e0, List.append_assoc]
        exact h2
      · have he' : nEsc c = false := by simpa using he
        rw [esc_esc hc he'] at h1
        unfold escOf at h1
        by_cases k1 : c.toNat = 34 ∨ c.toNat = 92
        · rw [if_pos k1] at h1
          refine tx_one (e := c) h1 hc ?_ h2 hi
          rcases k1 with k | k <;> rw [k] <;> rfl
        rw [if_neg k1] at h1
        by_cases k2 : c.toNat = 8
        · rw [if_pos k2] at h1
          exact tx_one (e := 98) h1 hc (by rw [k2]; rfl) h2 hi
        rw [if_neg k2] at h1
        by_cases k3 : c.toNat = 12
        · rw [if_pos k3] at h1
          exact tx_one (e := 102) h1 hc (by rw [k3]; rfl) h2 hi
        rw [if_neg k3] at h1
        by_cases k4 : c.toNat = 10
        · rw [if_pos k4] at h1
          exact tx_one (e := 110) h1 hc (by rw [k4]; rfl) h2 hi
        rw [if_neg k4] at h1
        by_cases k5 : c.toNat = 13
        · rw [if_pos k5] at h1
          exact tx_one (e := 114) h1 hc (by rw [k5]; rfl) h2 hi
        rw [if_neg k5] at h1
        by_cases k6 : c.toNat = 9
        · rw [if_pos k6] at h1
          exact tx_one (e := 116) h1 hc (by rw [k6]; rfl) h2 hi
        rw [if_neg k6] at h1
        exact tx_hex (a := 0) (b := 0) (c := c.toNat / 16) (d := c.toNat % 16) (v := c.toNat) (x := [c]) h1 (by decide) (by decide) (by omega) (by omega) (by omega) (.inl (by omega)) (enc_ascii hc) h2 hi
    · have hc' : 128 ≤ c.toNat := by omega
      by_cases hb : bad (c :: l) = true
      · rw [esc_bad hc' hb] at h1
        rw [true8_bad hb] at h2
        exact tx_hex (a := 15) (b := 15) (c := 15) (d := 13) (v := 65533) (x := [239, 191, 189]) h1 (by decide) (by decide) (by decide) (by decide) (by decide) (.inr (by decide)) enc_bad h2 hi
      · have hb' : bad (c :: l) = false := by simpa using hb
        rw [esc_rune hc' hb'] at h1
        rw [true8_rune hb'] at h2
        have p1 := dec_pos (c :: l)
        have p2 := dec_le (l := c :: l) (by simp)
        have hd : dec (s.data.toList.drop i) = dec (c :: l) := by rw [h1, List.append_assoc]; exact dec_take (by simp) hb' _
        have hbd : bad (s.data.toList.drop i) = false := by unfold bad at hb' ⊢; rw [hd]; exact hb'
        have hlen : ((c :: l).take (dec (c :: l)).2).length = (dec (c :: l)).2 := by rw [List.length_take]; omega
        have ht := drop_more (a := (c :: l).take (dec (c :: l)).2) (t := esc ((c :: l).drop (dec (c :: l)).2) ++ [34]) (by rw [h1, List.append_assoc])
        rw [hlen] at ht
        have hle : i + (dec (c :: l)).2 ≤ s.size := by
          have := congrArg List.length h1
          simp only [List.length_append, List.length_drop, hlen] at this
          rw [← size_list] at this
          omega
        have hi0 : s[i] = c := by
          have h1' : s.data.toList.drop i = c :: (l.take ((dec (c :: l)).2 - 1) ++ (esc ((c :: l).drop (dec (c :: l)).2) ++ [34])) := by
            rw [h1, List.append_assoc]
            obtain ⟨q, hq⟩ : ∃ q, (dec (c :: l)).2 = q + 1 := ⟨(dec (c :: l)).2 - 1, by omega⟩
            rw [hq]
            rfl
          exact (drop_head h1').2.1
        refine .rune (dec (c :: l)).2 (by rw [hi0]; omega) (by rw [hi0]; omega) (by rw [hi0]; omega) hbd (by rw [hd]) p1 hle ⟨(c :: l).drop (dec (c :: l)).2, ht, ?_⟩
        rw [List.append_assoc]
        have e : (s.data.toList.take (i + (dec (c :: l)).2)).drop i = (c :: l).take (dec (c :: l)).2 := by
          rw [List.drop_take, h1, List.append_assoc, show i + (dec (c :: l)).2 - i = (dec (c :: l)).2 by omega, List.take_append_of_le_length (by rw [hlen]; exact Nat.le_refl _), List.take_of_length_le (by rw [hlen]; exact Nat.le_refl _)]
        rw [e]
        exact h2

theorem tx_in {s : ByteArray} {R acc : List UInt8} {i : Nat} (h : TX s R acc i) : i < s.size := by
  obtain ⟨l, h1, _⟩ := h
  rcases Nat.lt_or_ge i s.size with h' | h'
  · exact h'
  · rw [List.drop_eq_nil_of_le (by rw [← size_list]; exact h')] at h1
    have := congrArg List.length h1
    simp at this
theorem tx_len {s : ByteArray} {R acc : List UInt8} {i : Nat} (h : TX s R acc i) : acc.length ≤ R.length := by
  obtain ⟨l, _, h2⟩ := h
  rw [← h2, List.length_append]
  omega
end Go.Proofs.YtdbnconphcaclaaDoor
