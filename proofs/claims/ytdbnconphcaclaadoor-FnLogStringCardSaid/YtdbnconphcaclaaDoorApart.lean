/-
  Texts of UTF-8: they are escaped piece by piece, and differently. No program in it.
-/
import Derived.Test.YtdbnconphcaclaaDoorTrue8
namespace Go.Proofs.YtdbnconphcaclaaDoor
set_option linter.unusedVariables false

/-- A text that JTrue8 leaves as it is. -/
theorem fixed_cons {b : UInt8} {l : List UInt8} (h : true8 (b :: l) = b :: l) : bad (b :: l) = false ∧ true8 ((b :: l).drop (dec (b :: l)).2) = (b :: l).drop (dec (b :: l)).2 := by
  by_cases hb : bad (b :: l) = true
  · rw [true8_bad hb] at h
    have h1 := (true8_length _ l (Nat.le_refl _)).1
    have := congrArg List.length h
    simp only [List.length_append, List.length_cons, List.length_nil] at this
    omega
  · have hb' : bad (b :: l) = false := by simpa using hb
    refine ⟨hb', ?_⟩
    rw [true8_rune hb'] at h
    have h2 : (b :: l).take (dec (b :: l)).2 ++ true8 ((b :: l).drop (dec (b :: l)).2) = (b :: l).take (dec (b :: l)).2 ++ (b :: l).drop (dec (b :: l)).2 := by
      rw [List.take_append_drop]; exact h
    exact List.append_cancel_left h2
theorem fixed_ascii {b : UInt8} {l : List UInt8} (h : true8 (b :: l) = b :: l) (hb : b.toNat < 128) : true8 l = l := by
  have := (fixed_cons h).2
  rw [dec_ascii hb] at this
  exact this

theorem esc_append : ∀ (n : Nat) (a b : List UInt8), a.length ≤ n → true8 a = a → esc (a ++ b) = esc a ++ esc b := by
  intro n
  induction n with
  | zero =>
    intro a b hl h
    have : a = [] := List.eq_nil_of_length_eq_zero (by omega)
    subst this
    rw [esc_nil]
    rfl
  | succ n ih =>
    intro a b hl h
    match a with
    | [] => rw [esc_nil]; rfl
    | c :: l =>
      simp only [List.length_cons] at hl
      rw [List.cons_append]
      by_cases hc : c.toNat < 128
      · have hf := fixed_ascii h hc
        have := ih l b (by omega) hf
        by_cases he : nEsc c = true
        · rw [esc_plain he, esc_plain he, this]; rfl
        · have he' : nEsc c = false := by simpa using he
          rw [esc_esc hc he', esc_esc hc he', this, List.append_assoc]
      · obtain ⟨hb, hf⟩ := fixed_cons h
        have hc' : 128 ≤ c.toNat := by omega
        have hb2 : bad (c :: (l ++ b)) = false := by rw [← List.cons_append]; exact bad_append (by simp) hb
        have hd : dec (c :: (l ++ b)) = dec (c :: l) := by rw [← List.cons_append]; exact dec_append (by simp) hb
        have hle := dec_le (l := c :: l) (by simp)
        have hp := dec_pos (c :: l)
        rw [esc_rune hc' hb2, esc_rune hc' hb, hd, ← List.cons_append, List.take_append_of_le_length hle, List.drop_append_of_le_length hle, List.append_assoc]
        congr 1
        exact ih _ b (by simp only [List.length_drop, List.length_cons]; omega) hf

/-- How long an escape is, and which byte it means. -/
def escLen (x : List UInt8) : Nat := if x.getD 1 0 = 117 then 6 else 2
def hexv (b : UInt8) : UInt8 := if b < 58 then b - 48 else b - 87
def escVal (x : List UInt8) : UInt8 :=
  if x.getD 1 0 = 117 then hexv (x.getD 4 0) * 16 + hexv (x.getD 5 0)
  else if x.getD 1 0 = 98 then 8 else if x.getD 1 0 = 102 then 12 else if x.getD 1 0 = 110 then 10 else if x.getD 1 0 = 114 then 13 else if x.getD 1 0 = 116 then 9 else x.getD 1 0
theorem esc_facts : ∀ n : Fin 128, nEsc (UInt8.ofNat n) = false → (escOf (UInt8.ofNat n)).length = escLen (escOf (UInt8.ofNat n)) ∧ escVal (escOf (UInt8.ofNat n)) = UInt8.ofNat n ∧ (escOf (UInt8.ofNat n)).getD 0 0 = 92 ∧ 2 ≤ (escOf (UInt8.ofNat n)).length := by decide +kernel
theorem esc_fact {c : UInt8} (hc : c.toNat < 128) (h : nEsc c = false) : (escOf c).length = escLen (escOf c) ∧ escVal (escOf c) = c ∧ (escOf c).getD 0 0 = 92 ∧ 2 ≤ (escOf c).length := by
  have := esc_facts ⟨c.toNat, hc⟩
  simp only [UInt8.ofNat_toNat] at this
  exact this h
theorem esc_more {c : UInt8} (hc : c.toNat < 128) (h : nEsc c = false) (x : List UInt8) : escLen (escOf c ++ x) = (escOf c).length ∧ escVal (escOf c ++ x) = c ∧ (escOf c ++ x).getD 0 0 = 92 := by
  obtain ⟨h1, h2, h3, h4⟩ := esc_fact hc h
  have g0 := getD_append_lt (escOf c) x 0 (by omega)
  have g1 := getD_append_lt (escOf c) x 1 (by omega)
  refine ⟨by unfold escLen at h1 ⊢; rw [g1]; exact h1.symm, ?_, by rw [g0]; exact h3⟩
  unfold escVal at h2 ⊢
  unfold escLen at h1
  rw [g1]
  by_cases hu : (escOf c).getD 1 0 = 117
  · rw [if_pos hu] at h1
    rw [getD_append_lt _ _ 4 (by omega), getD_append_lt _ _ 5 (by omega)]
    exact h2
  · rw [if_neg hu] at h2 ⊢
    exact h2

theorem decodeN_less (n n' k b0 b1 b2 b3 c1 c2 c3 : Nat) (hk : k = (Lib.decodeN n b0 b1 b2 b3).2) (hn : k ≤ n') (e1 : 1 < k → c1 = b1) (e2 : 2 < k → c2 = b2) (e3 : 3 < k → c3 = b3)
    (hg : ¬ ((Lib.decodeN n b0 b1 b2 b3).1 = 65533 ∧ (Lib.decodeN n b0 b1 b2 b3).2 = 1)) : Lib.decodeN n' b0 c1 c2 c3 = Lib.decodeN n b0 b1 b2 b3 := by
  by_cases h0 : b0 < 128
  · simp only [Lib.decodeN, h0, if_true]
  by_cases h6 : b0 / 32 = 6
  · by_cases q : 1 < n ∧ b1 / 64 = 2
    · by_cases v : b0 % 32 * 64 + b1 % 64 ≥ 128
      · simp only [Lib.decodeN, h0, h6, q, v, if_false, and_self, if_true] at hk
        subst hk
        have := e1 (by decide)
        subst this
        have k1' : 1 < n' := by omega
        simp only [Lib.decodeN, h0, h6, q, k1', if_false, and_self, if_true]
      · exfalso
        apply hg
        simp only [Lib.decodeN, h0, h6, q, v, if_false, and_self, if_true]
    · exfalso
      apply hg
      have h14 : ¬ b0 / 16 = 14 := by omega
      have h30 : ¬ b0 / 8 = 30 := by omega
      simp only [Lib.decodeN, h0, q, h14, h30, and_false, false_and, if_false, and_self]
  by_cases h14 : b0 / 16 = 14
  · by_cases q : (1 < n ∧ b1 / 64 = 2) ∧ (2 < n ∧ b2 / 64 = 2)
    · obtain ⟨⟨k1, k2⟩, k3, k4⟩ := q
      by_cases v : b0 % 16 * 4096 + b1 % 64 * 64 + b2 % 64 ≥ 2048 ∧ (b0 % 16 * 4096 + b1 % 64 * 64 + b2 % 64 < 55296 ∨ (57344 ≤ b0 % 16 * 4096 + b1 % 64 * 64 + b2 % 64 ∧ b0 % 16 * 4096 + b1 % 64 * 64 + b2 % 64 ≤ 1114111))
      · have hk' : k = 3 := by
          rw [hk]
          simp only [Lib.decodeN, h0, h6, h14, k1, k2, k3, k4, if_false, false_and, and_self, if_true]
          rw [if_pos v]
        clear hk
        subst hk'
        have := e1 (by decide)
        subst this
        have := e2 (by decide)
        subst this
        have k1' : 1 < n' := by omega
        have k3' : 2 < n' := by omega
        simp only [Lib.decodeN, h0, h6, h14, k1, k1', k2, k3, k3', k4, if_false, false_and, and_self, if_true]
      · exfalso
        apply hg
        simp only [Lib.decodeN, h0, h6, h14, k1, k2, k3, k4, if_false, false_and, and_self, if_true]
        rw [if_neg v]
        exact ⟨rfl, rfl⟩
    · exfalso
      apply hg
      have h30 : ¬ b0 / 8 = 30 := by omega
      simp only [Lib.decodeN, h0, h6, q, h30, and_false, false_and, if_false, and_self]
  by_cases h30 : b0 / 8 = 30
  · by_cases q : (1 < n ∧ b1 / 64 = 2) ∧ (2 < n ∧ b2 / 64 = 2) ∧ (3 < n ∧ b3 / 64 = 2)
    · obtain ⟨⟨k1, k2⟩, ⟨k3, k4⟩, k5, k6⟩ := q
      by_cases v : b0 % 8 * 262144 + b1 % 64 * 4096 + b2 % 64 * 64 + b3 % 64 ≥ 65536 ∧ (b0 % 8 * 262144 + b1 % 64 * 4096 + b2 % 64 * 64 + b3 % 64 < 55296 ∨ (57344 ≤ b0 % 8 * 262144 + b1 % 64 * 4096 + b2 % 64 * 64 + b3 % 64 ∧ b0 % 8 * 262144 + b1 % 64 * 4096 + b2 % 64 * 64 + b3 % 64 ≤ 1114111))
      · have hk' : k = 4 := by
          rw [hk]
          simp only [Lib.decodeN, h0, h6, h14, h30, k1, k2, k3, k4, k5, k6, if_false, false_and, and_self, if_true]
          rw [if_pos v]
        clear hk
        subst hk'
        have := e1 (by decide)
        subst this
        have := e2 (by decide)
        subst this
        have := e3 (by decide)
        subst this
        have k1' : 1 < n' := by omega
        have k3' : 2 < n' := by omega
        have k5' : 3 < n' := by omega
        simp only [Lib.decodeN, h0, h6, h14, h30, k1, k1', k2, k3, k3', k4, k5, k5', k6, if_false, false_and, and_self, if_true]
      · exfalso
        apply hg
        simp only [Lib.decodeN, h0, h6, h14, h30, k1, k2, k3, k4, k5, k6, if_false, false_and, and_self, if_true]
        rw [if_neg v]
        exact ⟨rfl, rfl⟩
    · exfalso
      apply hg
      simp only [Lib.decodeN, h0, h6, h14, q, and_false, false_and, if_false, and_self]
  · exfalso
    apply hg
    simp only [Lib.decodeN, h0, h6, h14, h30, false_and, if_false, and_self]

/-- A rune that is whole is read the same, whatever stands behind it. -/
theorem dec_take {l : List UInt8} (hne : l ≠ []) (hg : bad l = false) (z : List UInt8) : dec (l.take (dec l).2 ++ z) = dec l := by
  have hg' := not_bad hg
  have hp := dec_pos l
  have hle := dec_le hne
  have hd : ∀ i, i < (dec l).2 → (l.take (dec l).2 ++ z).getD i 0 = l.getD i 0 := by
    intro i hi
    rw [getD_append_lt _ _ _ (by rw [List.length_take]; omega), List.getD_eq_getElem?_getD, List.getElem?_take, if_pos hi, ← List.getD_eq_getElem?_getD]
  have h0 := hd 0 (by omega)
  have hlen : (dec l).2 ≤ (l.take (dec l).2 ++ z).length := by rw [List.length_append, List.length_take]; omega
  generalize hy : l.take (dec l).2 ++ z = y at hd h0 hlen ⊢
  unfold dec at hg' hd hlen ⊢
  rw [h0]
  exact decodeN_less _ _ _ _ _ _ _ _ _ _ rfl hlen (fun h => by rw [hd 1 h]) (fun h => by rw [hd 2 h]) (fun h => by rw [hd 3 h]) hg'

/-- How the text of a cons begins. -/
theorem esc_head {c : UInt8} {l : List UInt8} (h : true8 (c :: l) = c :: l) :
    (nEsc c = true ∧ esc (c :: l) = c :: esc l ∧ true8 l = l) ∨ (c.toNat < 128 ∧ nEsc c = false ∧ esc (c :: l) = escOf c ++ esc l ∧ true8 l = l) ∨ (128 ≤ c.toNat ∧ bad (c :: l) = false ∧ esc (c :: l) = (c :: l).take (dec (c :: l)).2 ++ esc ((c :: l).drop (dec (c :: l)).2) ∧ true8 ((c :: l).drop (dec (c :: l)).2) = (c :: l).drop (dec (c :: l)).2) := by
  by_cases hc : c.toNat < 128
  · by_cases he : nEsc c = true
    · exact .inl ⟨he, esc_plain he, fixed_ascii h hc⟩
    · have he' : nEsc c = false := by simpa using he
      exact .inr (.inl ⟨hc, he', esc_esc hc he', fixed_ascii h hc⟩)
  · obtain ⟨hb, hf⟩ := fixed_cons h
    exact .inr (.inr ⟨by omega, hb, esc_rune (by omega) hb, hf⟩)
theorem high_head {c : UInt8} {l z : List UInt8} : ((c :: l).take (dec (c :: l)).2 ++ z).getD 0 0 = c := by
  have := dec_pos (c :: l)
  rw [getD_append_lt _ _ _ (by rw [List.length_take, List.length_cons]; omega), List.getD_eq_getElem?_getD, List.getElem?_take, if_pos (by omega)]
  rfl
theorem esc_ne {c : UInt8} {l : List UInt8} (h : true8 (c :: l) = c :: l) : esc (c :: l) ≠ [] := by
  intro e
  rcases esc_head h with ⟨_, h2, _⟩ | ⟨h1, h2, h3, _⟩ | ⟨h1, _, h3, _⟩
  · rw [h2] at e; cases e
  · rw [h3] at e
    have := (esc_fact h1 h2).2.2.2
    rw [List.append_eq_nil_iff] at e
    rw [e.1] at this
    simp at this
  · rw [h3] at e
    have := high_head (c := c) (l := l) (z := esc ((c :: l).drop (dec (c :: l)).2))
    rw [e] at this
    subst this
    simp at h1

theorem esc_inj : ∀ (n : Nat) (a b : List UInt8), a.length ≤ n → true8 a = a → true8 b = b → esc a = esc b → a = b := by
  intro n
  induction n with
  | zero =>
    intro a b hl ha hb h
    have : a = [] := List.eq_nil_of_length_eq_zero (by omega)
    subst this
    match b with
    | [] => rfl
    | c :: l => rw [esc_nil] at h; exact absurd h.symm (esc_ne hb)
  | succ n ih =>
    intro a b hl ha hb h
    match a, b with
    | [], [] => rfl
    | [], c :: l => rw [esc_nil] at h; exact absurd h.symm (esc_ne hb)
    | c :: l, [] => rw [esc_nil] at h; exact absurd h (esc_ne ha)
    | c :: l, d :: m =>
      simp only [List.length_cons] at hl
      have n92 : nEsc 92 = false := by decide
      rcases esc_head ha with ⟨a1, a2, a3⟩ | ⟨a1, a2, a3, a4⟩ | ⟨a1, a2, a3, a4⟩
      · have lc : c.toNat < 128 := by unfold nEsc at a1; simp only [decide_eq_true_eq] at a1; omega
        rcases esc_head hb with ⟨b1, b2, b3⟩ | ⟨b1, b2, b3, b4⟩ | ⟨b1, b2, b3, b4⟩
        · rw [a2, b2] at h
          obtain ⟨rfl, h'⟩ := List.cons.inj h
          rw [ih l m (by omega) a3 b3 h']
        · exfalso
          have := (esc_more b1 b2 (esc m)).2.2
          rw [← b3, ← h, a2] at this
          simp only [List.getD_cons_zero] at this
          rw [this, n92] at a1
          cases a1
        · exfalso
          have := high_head (c := d) (l := m) (z := esc ((d :: m).drop (dec (d :: m)).2))
          rw [← b3, ← h, a2] at this
          simp only [List.getD_cons_zero] at this
          subst this
          omega
      · obtain ⟨u1, u2, u3⟩ := esc_more a1 a2 (esc l)
        rcases esc_head hb with ⟨b1, b2, b3⟩ | ⟨b1, b2, b3, b4⟩ | ⟨b1, b2, b3, b4⟩
        · exfalso
          rw [← a3, h, b2] at u3
          simp only [List.getD_cons_zero] at u3
          rw [u3, n92] at b1
          cases b1
        · obtain ⟨v1, v2, v3⟩ := esc_more b1 b2 (esc m)
          rw [← a3, h, b3, v2] at u2
          subst u2
          rw [a3, b3] at h
          rw [ih l m (by omega) a4 b4 (List.append_cancel_left h)]
        · exfalso
          have := high_head (c := d) (l := m) (z := esc ((d :: m).drop (dec (d :: m)).2))
          rw [← b3, ← h, a3, u3] at this
          subst this
          simp at b1
      · have hh := high_head (c := c) (l := l) (z := esc ((c :: l).drop (dec (c :: l)).2))
        rw [← a3] at hh
        rcases esc_head hb with ⟨b1, b2, b3⟩ | ⟨b1, b2, b3, b4⟩ | ⟨b1, b2, b3, b4⟩
        · exfalso
          have ld : d.toNat < 128 := by unfold nEsc at b1; simp only [decide_eq_true_eq] at b1; omega
          rw [h, b2] at hh
          simp only [List.getD_cons_zero] at hh
          subst hh
          omega
        · exfalso
          have := (esc_more b1 b2 (esc m)).2.2
          rw [← b3, ← h, hh] at this
          subst this
          simp at a1
        · have d1 := dec_take (l := c :: l) (by simp) a2 (esc ((c :: l).drop (dec (c :: l)).2))
          have d2 := dec_take (l := d :: m) (by simp) b2 (esc ((d :: m).drop (dec (d :: m)).2))
          rw [← a3] at d1
          rw [← b3, ← h, d1] at d2
          have p1 := dec_pos (c :: l)
          have l1 := dec_le (l := c :: l) (by simp)
          have l2 := dec_le (l := d :: m) (by simp)
          rw [a3, b3, ← d2] at h
          rw [← d2] at l2 b4
          obtain ⟨t1, t2⟩ := List.append_inj h (by simp only [List.length_take]; omega)
          have t3 := ih _ _ (by simp only [List.length_drop, List.length_cons]; omega) a4 b4 t2
          rw [← List.take_append_drop (dec (c :: l)).2 (c :: l), ← List.take_append_drop (dec (c :: l)).2 (d :: m), t1, t3]
end Go.Proofs.YtdbnconphcaclaaDoor
