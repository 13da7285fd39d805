/-
  package time's appendFormatRFC3339 (printed by wip/gen_rfc.py): the text of a time. Conditions: as the theorems say.
-/
import Derived.Test.YtdbnconphcaclaaDoorRfcA
namespace Go.Proofs.YtdbnconphcaclaaDoor
open Go.RowKit
set_option linter.unusedVariables false

theorem BH.below {w w' : World} {g n B : Nat} {l : List UInt8} (h : BH w g n l) (hb : Below B w w') (hg : g < B) : BH w' g n l := by
  obtain ⟨h1, T, cs, hk, hs, ht⟩ := h
  exact ⟨h1, T, cs, hk.below hb hg, hs, ht⟩
theorem BH.grownA {w w' : World} {g n : Nat} {l : List UInt8} (h : BH w g n l) (o : Obj) (hb : Below (w.alloc o).heap.size (w.alloc o) w') : BH w' g n l :=
  (h.alloc o).below hb (by have := h.lt; simp; omega)
theorem BH.cast {w : World} {g n : Nat} {l l' : List UInt8} (e : l = l') (h : BH w g n l) : BH w g n l' := e ▸ h
/-- Date and time of day, up to the seconds. -/
def stampT (E n s : Nat) : List UInt8 := padT (yearN E n) 4 ++ [45] ++ padT (monthN n) 2 ++ [45] ++ padT (dayN n) 2 ++ [84] ++ padT (s / 3600) 2 ++ [58] ++ padT (s / 60 % 60) 2 ++ [58] ++ padT (s % 60) 2
/-- The zone: m minutes ahead of UTC. -/
def zoneT (m : Int) : List UInt8 := if m = 0 then [90] else (if m < 0 then 45 else 43) :: (padT (m.natAbs / 60) 2 ++ ([58] ++ padT (m.natAbs % 60) 2))
theorem month_le (n : Nat) (hn : n < 146097) : monthN n ≤ 99 ∧ dayN n ≤ 99 := by
  obtain ⟨m1, m2, m3, m4, m5, m6, m7, m8⟩ := month_facts n hn
  refine ⟨?_, by omega⟩
  unfold monthN
  split <;> omega
theorem year_le (E n : Nat) (hE : E ≤ 10) (hn : n < 146097) : yearN E n ≤ 9999 := by
  obtain ⟨m1, m2, m3, m4, m5, m6, m7, m8⟩ := month_facts n hn
  unfold yearN
  split <;> omega
theorem grown_of_alloc {w w' : World} {o : Obj} {g : Nat} (h : (w.alloc o).grownBy w' (some g)) : w.grownBy w' (some g) := grown_g (only_alloc (World.grownBy.refl _ _) o) h
theorem Box.grown {W W' : World} {b g : Nat} {ext nano off : Int} {zone : ByteArray} (h : Box W b ext nano off zone) (k : W.grownBy W' (some g)) (hne : b ≠ g) : Box W' b ext nano off zone := by
  have e : ∀ j, W'.cell? ⟨b, j, none⟩ = W.cell? ⟨b, j, none⟩ := fun j => World.cell?_of_block (k.block b h.1 (by simpa using hne))
  exact ⟨Nat.lt_of_lt_of_le h.1 k.size, by rw [e]; exact h.2.1, by rw [e]; exact h.2.2.1, by rw [e]; exact h.2.2.2.1, by rw [e]; exact h.2.2.2.2⟩
theorem below_after {a w w' : World} {row : Option Nat} (h : a.grownBy w row) (k : Below w.heap.size w w') : a.grownBy w' row := grown_below h (k.mono h.size)
theorem fracT_len (v p : Nat) : (fracT v p).length ≤ p + 1 := by
  unfold fracT
  have := fracs_length v p
  split
  · simp
  · simp only [List.length_cons]; omega
theorem padT_two_len {v : Nat} (h : v ≤ 99) : (padT v 2).length = 2 := by rw [padT_two h]; rfl

set_option maxRecDepth 100000 in
set_option maxHeartbeats 2000000 in
theorem rfc_plain_utc (ext nano : Int) (E n s v g : Nat) (zone : ByteArray) (w : World) (hb : BH w g 0 []) (hext : ext - 62135596800 + 0 = 86400 * (146097 * (E : Int) + (n : Int) - 719468) + (s : Int)) (h0 : -9223372037 ≤ ext - 62135596800) (h1 : ext - 62135596800 ≤ 9223372037) (hE : E ≤ 10) (hn : n < 146097) (hs : s < 86400) (hv : nano = (v : Int)) (hv1 : v ≤ 999999999) :
    Calls Tryd.prog 77 #[.agg #[.int .i64 ext, .int .i32 nano, .string zone, .int .i64 0], .slice (some ⟨g, 0, none⟩) 0 64, .bool false] w fun e w' => ∃ k, e = .returned (.slice (some ⟨g, 0, none⟩) k 64) ∧ k ≤ 64 ∧ BH w' g k (stampT E n s ++ zoneT 0) ∧ w.grownBy w' (some g) := by
  obtain ⟨A, hA⟩ : ∃ A : Int, A = ext - 62135596800 + 0 + 9223372028741760000 := ⟨_, rfl⟩
  have hA2 : A = 86400 * (146097 * (730692556 + (E : Int)) + (n : Int)) + (s : Int) := by omega
  obtain ⟨D, hD⟩ : ∃ D : Int, D = A / 86400 := ⟨_, rfl⟩
  have hD2 : D = 146097 * (730692556 + (E : Int)) + (n : Int) := by omega
  have hAs : A % 86400 = (s : Int) := by omega
  have a0 : 0 ≤ A := by omega
  have a1 : A ≤ 18446744073709551615 := by omega
  obtain ⟨Y, hY⟩ : ∃ Y : Int, Y = (yearN E n : Int) := ⟨_, rfl⟩
  obtain ⟨M, hM⟩ : ∃ M : Int, M = (monthN n : Int) := ⟨_, rfl⟩
  obtain ⟨W, hW⟩ : ∃ W : Int, W = (dayN n : Int) := ⟨_, rfl⟩
  obtain ⟨x, hx⟩ : ∃ x : Int, x = (s / 3600 : Nat) := ⟨_, rfl⟩
  obtain ⟨y, hy⟩ : ∃ y : Int, y = (s / 60 % 60 : Nat) := ⟨_, rfl⟩
  obtain ⟨z, hz⟩ : ∃ z : Int, z = (s % 60 : Nat) := ⟨_, rfl⟩
  have ht : s / 3600 ≤ 99 ∧ s / 60 % 60 ≤ 99 ∧ s % 60 ≤ 99 := by omega
  have v0 : 0 ≤ nano := by omega
  have v1 : nano ≤ 999999999 := by omega
  have H := Lib.hid (And.intro hb (And.intro hA (And.intro hD (And.intro hD2 (And.intro hAs (And.intro hE (And.intro hn (And.intro ht hv1))))))))
  have HV := Lib.hid (And.intro hY (And.intro hM (And.intro hW (And.intro hx (And.intro hy (And.intro hz (And.intro hv (And.intro (year_le E n hE hn) (month_le n hn)))))))))
  have HL := Lib.hid (And.intro h0 (And.intro h1 (And.intro a0 a1)))
  clear hb hA hD hD2 hAs hE hn ht hY hM hW hx hy hz hv hA2 hext h0 h1 hs a0 a1 hv1
  go_enter Tryd.func77, Tryd.ntmps77
  go_wp2_with (first
    | (go_at_call 93; refine (appint2_at g (17) (19) (s % 60) _ z (by omega) HV.out.2.2.2.2.2.1 H.out.2.2.2.2.2.2.2.1.2.2 _ (H5.out.1.put1 _ 58 58 rfl (by omega) (17) (by omega)) (by omega)).mono ?_; rintro e w6 ⟨rfl, hb6, hg6⟩
       obtain ⟨u6, y6⟩ := hb6.cellA (19) (by omega)
       have z6 := hb6.frozenA (19)
       have H6 := Lib.hid (And.intro hb6 (grown_g (only_at (only_alloc H5.out.2 _) _ _) hg6)); clear hb6 hg6 y5 z5)
    | (go_at_call 93; refine (appint2_at g (14) (16) (s / 60 % 60) _ y (by omega) HV.out.2.2.2.2.1 H.out.2.2.2.2.2.2.2.1.2.1 _ (H4.out.1.put1 _ 58 58 rfl (by omega) (14) (by omega)) (by omega)).mono ?_; rintro e w5 ⟨rfl, hb5, hg5⟩
       obtain ⟨u5, y5⟩ := hb5.cellA (16) (by omega)
       have z5 := hb5.frozenA (16)
       have H5 := Lib.hid (And.intro hb5 (grown_g (only_at (only_alloc H4.out.2 _) _ _) hg5)); clear hb5 hg5 y4 z4)
    | (go_at_call 93; refine (appint2_at g (11) (13) (s / 3600) _ x (by omega) HV.out.2.2.2.1 H.out.2.2.2.2.2.2.2.1.1 _ (H3.out.1.put1 _ 84 84 rfl (by omega) (11) (by omega)) (by omega)).mono ?_; rintro e w4 ⟨rfl, hb4, hg4⟩
       obtain ⟨u4, y4⟩ := hb4.cellA (13) (by omega)
       have z4 := hb4.frozenA (13)
       have H4 := Lib.hid (And.intro hb4 (grown_g (only_at (only_alloc H3.out.2 _) _ _) hg4)); clear hb4 hg4 y3 z3)
    | (go_at_call 93; refine (appint2_at g (8) (10) (dayN n) _ W (by omega) HV.out.2.2.1 HV.out.2.2.2.2.2.2.2.2.2 _ (H2.out.1.put1 _ 45 45 rfl (by omega) (8) (by omega)) (by omega)).mono ?_; rintro e w3 ⟨rfl, hb3, hg3⟩
       obtain ⟨u3, y3⟩ := hb3.cellA (10) (by omega)
       have z3 := hb3.frozenA (10)
       have H3 := Lib.hid (And.intro hb3 (grown_g (only_at (only_alloc H2.out.2 _) _ _) hg3)); clear hb3 hg3 y2 z2)
    | (go_at_call 93; refine (appint2_at g (5) (7) (monthN n) _ M (by omega) HV.out.2.1 HV.out.2.2.2.2.2.2.2.2.1 _ (H1.out.1.put1 _ 45 45 rfl (by omega) (5) (by omega)) (by omega)).mono ?_; rintro e w2 ⟨rfl, hb2, hg2⟩
       obtain ⟨u2, y2⟩ := hb2.cellA (7) (by omega)
       have z2 := hb2.frozenA (7)
       have H2 := Lib.hid (And.intro hb2 (grown_g (only_at (only_alloc H1.out.2 _) _ _) hg2)); clear hb2 hg2 y1 z1)
    | (go_at_call 93; refine (appint4_at g (0) (4) (yearN E n) _ Y (by omega) HV.out.1 HV.out.2.2.2.2.2.2.2.1 _ H0.out.1 (by omega)).mono ?_; rintro e w1 ⟨rfl, hb1, hg1⟩
       obtain ⟨u1, y1⟩ := hb1.cellA (4) (by omega)
       have z1 := hb1.frozenA (4)
       have H1 := Lib.hid (And.intro hb1 (grown_g H0.out.2 hg1)); clear hb1 hg1)
    | (go_at_call 90; refine (locabs_at ext nano 0 A zone HL.out.1 HL.out.2.1 (by omega) (by omega) H.out.2.1 _).mono ?_; rintro e w0 ⟨rfl, hbl⟩
       have h0b := BH.grownA H.out.1 _ hbl
       have H0 := Lib.hid (And.intro h0b (only_of_below hbl (some g))); clear hbl h0b)
    | (go_at_call 91; refine (days_at A D HL.out.2.2.1 HL.out.2.2.2 H.out.2.2.1 _).mono ?_; rintro e wd ⟨rfl, rfl⟩)
    | (go_at_call 92; refine (date_at D Y M W E n H.out.2.2.2.1 HV.out.1 HV.out.2.1 HV.out.2.2.1 H.out.2.2.2.2.2.1 H.out.2.2.2.2.2.2.1 _).mono ?_; rintro e we ⟨rfl, rfl⟩)
    | (go_at_call 94; refine (clock_at A x y z s HL.out.2.2.1 HL.out.2.2.2 H.out.2.2.2.2.1 HV.out.2.2.2.1 HV.out.2.2.2.2.1 HV.out.2.2.2.2.2.1 _).mono ?_; rintro e wc ⟨rfl, rfl⟩))
  go_ret
  exact ⟨19 + 1, rfl, by omega, BH.cast (by unfold stampT zoneT; rw [if_pos rfl]; simp [List.append_assoc]) (H6.out.1.put1 _ 90 90 rfl (by omega) (19 + 1) (by omega)), (grown_of_alloc (only_at (only_alloc H6.out.2 _) _ _))⟩

set_option maxRecDepth 100000 in
set_option maxHeartbeats 2000000 in
theorem rfc_plain_east (ext nano : Int) (m : Int) (hm0 : 1 ≤ m) (hm1 : m ≤ 840) (E n s v g : Nat) (zone : ByteArray) (w : World) (hb : BH w g 0 []) (off : Int) (hoff : off = 60 * m) (hext : ext - 62135596800 + off = 86400 * (146097 * (E : Int) + (n : Int) - 719468) + (s : Int)) (h0 : -9223372037 ≤ ext - 62135596800) (h1 : ext - 62135596800 ≤ 9223372037) (hE : E ≤ 10) (hn : n < 146097) (hs : s < 86400) (hv : nano = (v : Int)) (hv1 : v ≤ 999999999) :
    Calls Tryd.prog 77 #[.agg #[.int .i64 ext, .int .i32 nano, .string zone, .int .i64 off], .slice (some ⟨g, 0, none⟩) 0 64, .bool false] w fun e w' => ∃ k, e = .returned (.slice (some ⟨g, 0, none⟩) k 64) ∧ k ≤ 64 ∧ BH w' g k (stampT E n s ++ zoneT m) ∧ w.grownBy w' (some g) := by
  obtain ⟨A, hA⟩ : ∃ A : Int, A = ext - 62135596800 + off + 9223372028741760000 := ⟨_, rfl⟩
  have hA2 : A = 86400 * (146097 * (730692556 + (E : Int)) + (n : Int)) + (s : Int) := by omega
  obtain ⟨D, hD⟩ : ∃ D : Int, D = A / 86400 := ⟨_, rfl⟩
  have hD2 : D = 146097 * (730692556 + (E : Int)) + (n : Int) := by omega
  have hAs : A % 86400 = (s : Int) := by omega
  have a0 : 0 ≤ A := by omega
  have a1 : A ≤ 18446744073709551615 := by omega
  obtain ⟨Y, hY⟩ : ∃ Y : Int, Y = (yearN E n : Int) := ⟨_, rfl⟩
  obtain ⟨M, hM⟩ : ∃ M : Int, M = (monthN n : Int) := ⟨_, rfl⟩
  obtain ⟨W, hW⟩ : ∃ W : Int, W = (dayN n : Int) := ⟨_, rfl⟩
  obtain ⟨x, hx⟩ : ∃ x : Int, x = (s / 3600 : Nat) := ⟨_, rfl⟩
  obtain ⟨y, hy⟩ : ∃ y : Int, y = (s / 60 % 60 : Nat) := ⟨_, rfl⟩
  obtain ⟨z, hz⟩ : ∃ z : Int, z = (s % 60 : Nat) := ⟨_, rfl⟩
  have ht : s / 3600 ≤ 99 ∧ s / 60 % 60 ≤ 99 ∧ s % 60 ≤ 99 := by omega
  have v0 : 0 ≤ nano := by omega
  have v1 : nano ≤ 999999999 := by omega
  have o2 : -50400 ≤ off := by omega
  have o3 : off ≤ 50400 := by omega
  have oz : (off == 0) = false := by simp; omega
  have om : off / 60 = m := by omega
  obtain ⟨a, ha⟩ : ∃ a, a = m.natAbs := ⟨_, rfl⟩
  have hal : a ≤ 840 := by omega
  obtain ⟨B, hB⟩ : ∃ B : Int, B = (a : Int) := ⟨_, rfl⟩
  have hmB : m = B := by omega
  have b0 : 1 ≤ B := by omega
  have b1 : B ≤ 840 := by omega
  rw [hmB] at om
  have H := Lib.hid (And.intro hb (And.intro hA (And.intro hD (And.intro hD2 (And.intro hAs (And.intro hE (And.intro hn (And.intro ht hv1))))))))
  have HV := Lib.hid (And.intro hY (And.intro hM (And.intro hW (And.intro hx (And.intro hy (And.intro hz (And.intro hv (And.intro (year_le E n hE hn) (month_le n hn)))))))))
  have HL := Lib.hid (And.intro h0 (And.intro h1 (And.intro a0 a1)))
  have HZ := Lib.hid (And.intro ha (And.intro hB (And.intro hal (And.intro hoff hmB))))
  clear ha hB hal hoff hmB hm0 hm1
  clear hb hA hD hD2 hAs hE hn ht hY hM hW hx hy hz hv hA2 hext h0 h1 hs a0 a1 hv1
  go_enter Tryd.func77, Tryd.ntmps77
  go_wp2_with (first
    | (go_at_call 93; refine (appint2_at g (19 + 4) (19 + 6) (a % 60) _ _ (by omega) (by have := HZ.out.2.1; have := HZ.out.1; omega) (by have := HZ.out.2.2.1; omega) _ (H7.out.1.put1 _ 58 58 rfl (by omega) (19 + 4) (by omega)) (by omega)).mono ?_; rintro e w8 ⟨rfl, hb8, hg8⟩
       obtain ⟨u8, y8⟩ := hb8.cellA (19 + 6) (by omega)
       have z8 := hb8.frozenA (19 + 6)
       have H8 := Lib.hid (And.intro hb8 (grown_g (only_at (only_alloc H7.out.2 _) _ _) hg8)); clear hb8 hg8 y7 z7)
    | (go_at_call 93; refine (appint2_at g (19 + 1) (19 + 3) (a / 60) _ _ (by omega) (by have := HZ.out.2.1; have := HZ.out.1; omega) (by have := HZ.out.2.2.1; omega) _ (H6.out.1.put1 _ 43 43 rfl (by omega) (19 + 1) (by omega)) (by omega)).mono ?_; rintro e w7 ⟨rfl, hb7, hg7⟩
       obtain ⟨u7, y7⟩ := hb7.cellA (19 + 3) (by omega)
       have z7 := hb7.frozenA (19 + 3)
       have H7 := Lib.hid (And.intro hb7 (grown_g (only_at (only_alloc H6.out.2 _) _ _) hg7)); clear hb7 hg7 y6 z6)
    | (go_at_call 93; refine (appint2_at g (17) (19) (s % 60) _ z (by omega) HV.out.2.2.2.2.2.1 H.out.2.2.2.2.2.2.2.1.2.2 _ (H5.out.1.put1 _ 58 58 rfl (by omega) (17) (by omega)) (by omega)).mono ?_; rintro e w6 ⟨rfl, hb6, hg6⟩
       obtain ⟨u6, y6⟩ := hb6.cellA (19) (by omega)
       have z6 := hb6.frozenA (19)
       have H6 := Lib.hid (And.intro hb6 (grown_g (only_at (only_alloc H5.out.2 _) _ _) hg6)); clear hb6 hg6 y5 z5)
    | (go_at_call 93; refine (appint2_at g (14) (16) (s / 60 % 60) _ y (by omega) HV.out.2.2.2.2.1 H.out.2.2.2.2.2.2.2.1.2.1 _ (H4.out.1.put1 _ 58 58 rfl (by omega) (14) (by omega)) (by omega)).mono ?_; rintro e w5 ⟨rfl, hb5, hg5⟩
       obtain ⟨u5, y5⟩ := hb5.cellA (16) (by omega)
       have z5 := hb5.frozenA (16)
       have H5 := Lib.hid (And.intro hb5 (grown_g (only_at (only_alloc H4.out.2 _) _ _) hg5)); clear hb5 hg5 y4 z4)
    | (go_at_call 93; refine (appint2_at g (11) (13) (s / 3600) _ x (by omega) HV.out.2.2.2.1 H.out.2.2.2.2.2.2.2.1.1 _ (H3.out.1.put1 _ 84 84 rfl (by omega) (11) (by omega)) (by omega)).mono ?_; rintro e w4 ⟨rfl, hb4, hg4⟩
       obtain ⟨u4, y4⟩ := hb4.cellA (13) (by omega)
       have z4 := hb4.frozenA (13)
       have H4 := Lib.hid (And.intro hb4 (grown_g (only_at (only_alloc H3.out.2 _) _ _) hg4)); clear hb4 hg4 y3 z3)
    | (go_at_call 93; refine (appint2_at g (8) (10) (dayN n) _ W (by omega) HV.out.2.2.1 HV.out.2.2.2.2.2.2.2.2.2 _ (H2.out.1.put1 _ 45 45 rfl (by omega) (8) (by omega)) (by omega)).mono ?_; rintro e w3 ⟨rfl, hb3, hg3⟩
       obtain ⟨u3, y3⟩ := hb3.cellA (10) (by omega)
       have z3 := hb3.frozenA (10)
       have H3 := Lib.hid (And.intro hb3 (grown_g (only_at (only_alloc H2.out.2 _) _ _) hg3)); clear hb3 hg3 y2 z2)
    | (go_at_call 93; refine (appint2_at g (5) (7) (monthN n) _ M (by omega) HV.out.2.1 HV.out.2.2.2.2.2.2.2.2.1 _ (H1.out.1.put1 _ 45 45 rfl (by omega) (5) (by omega)) (by omega)).mono ?_; rintro e w2 ⟨rfl, hb2, hg2⟩
       obtain ⟨u2, y2⟩ := hb2.cellA (7) (by omega)
       have z2 := hb2.frozenA (7)
       have H2 := Lib.hid (And.intro hb2 (grown_g (only_at (only_alloc H1.out.2 _) _ _) hg2)); clear hb2 hg2 y1 z1)
    | (go_at_call 93; refine (appint4_at g (0) (4) (yearN E n) _ Y (by omega) HV.out.1 HV.out.2.2.2.2.2.2.2.1 _ H0.out.1 (by omega)).mono ?_; rintro e w1 ⟨rfl, hb1, hg1⟩
       obtain ⟨u1, y1⟩ := hb1.cellA (4) (by omega)
       have z1 := hb1.frozenA (4)
       have H1 := Lib.hid (And.intro hb1 (grown_g H0.out.2 hg1)); clear hb1 hg1)
    | (go_at_call 90; refine (locabs_at ext nano off A zone HL.out.1 HL.out.2.1 (by omega) (by omega) H.out.2.1 _).mono ?_; rintro e w0 ⟨rfl, hbl⟩
       have h0b := BH.grownA H.out.1 _ hbl
       have H0 := Lib.hid (And.intro h0b (only_of_below hbl (some g))); clear hbl h0b)
    | (go_at_call 91; refine (days_at A D HL.out.2.2.1 HL.out.2.2.2 H.out.2.2.1 _).mono ?_; rintro e wd ⟨rfl, rfl⟩)
    | (go_at_call 92; refine (date_at D Y M W E n H.out.2.2.2.1 HV.out.1 HV.out.2.1 HV.out.2.2.1 H.out.2.2.2.2.2.1 H.out.2.2.2.2.2.2.1 _).mono ?_; rintro e we ⟨rfl, rfl⟩)
    | (go_at_call 94; refine (clock_at A x y z s HL.out.2.2.1 HL.out.2.2.2 H.out.2.2.2.2.1 HV.out.2.2.2.1 HV.out.2.2.2.2.1 HV.out.2.2.2.2.2.1 _).mono ?_; rintro e wc ⟨rfl, rfl⟩))
  go_ret
  exact ⟨19 + 6, rfl, by omega, BH.cast (by unfold stampT zoneT; rw [if_neg (by have := HZ.out; omega), if_neg (by have := HZ.out; omega), ← HZ.out.1]; simp [List.append_assoc]) H8.out.1, (grown_of_alloc H8.out.2)⟩

set_option maxRecDepth 100000 in
set_option maxHeartbeats 2000000 in
theorem rfc_plain_west (ext nano : Int) (m : Int) (hm0 : m ≤ -1) (hm1 : -840 ≤ m) (E n s v g : Nat) (zone : ByteArray) (w : World) (hb : BH w g 0 []) (off : Int) (hoff : off = 60 * m) (hext : ext - 62135596800 + off = 86400 * (146097 * (E : Int) + (n : Int) - 719468) + (s : Int)) (h0 : -9223372037 ≤ ext - 62135596800) (h1 : ext - 62135596800 ≤ 9223372037) (hE : E ≤ 10) (hn : n < 146097) (hs : s < 86400) (hv : nano = (v : Int)) (hv1 : v ≤ 999999999) :
    Calls Tryd.prog 77 #[.agg #[.int .i64 ext, .int .i32 nano, .string zone, .int .i64 off], .slice (some ⟨g, 0, none⟩) 0 64, .bool false] w fun e w' => ∃ k, e = .returned (.slice (some ⟨g, 0, none⟩) k 64) ∧ k ≤ 64 ∧ BH w' g k (stampT E n s ++ zoneT m) ∧ w.grownBy w' (some g) := by
  obtain ⟨A, hA⟩ : ∃ A : Int, A = ext - 62135596800 + off + 9223372028741760000 := ⟨_, rfl⟩
  have hA2 : A = 86400 * (146097 * (730692556 + (E : Int)) + (n : Int)) + (s : Int) := by omega
  obtain ⟨D, hD⟩ : ∃ D : Int, D = A / 86400 := ⟨_, rfl⟩
  have hD2 : D = 146097 * (730692556 + (E : Int)) + (n : Int) := by omega
  have hAs : A % 86400 = (s : Int) := by omega
  have a0 : 0 ≤ A := by omega
  have a1 : A ≤ 18446744073709551615 := by omega
  obtain ⟨Y, hY⟩ : ∃ Y : Int, Y = (yearN E n : Int) := ⟨_, rfl⟩
  obtain ⟨M, hM⟩ : ∃ M : Int, M = (monthN n : Int) := ⟨_, rfl⟩
  obtain ⟨W, hW⟩ : ∃ W : Int, W = (dayN n : Int) := ⟨_, rfl⟩
  obtain ⟨x, hx⟩ : ∃ x : Int, x = (s / 3600 : Nat) := ⟨_, rfl⟩
  obtain ⟨y, hy⟩ : ∃ y : Int, y = (s / 60 % 60 : Nat) := ⟨_, rfl⟩
  obtain ⟨z, hz⟩ : ∃ z : Int, z = (s % 60 : Nat) := ⟨_, rfl⟩
  have ht : s / 3600 ≤ 99 ∧ s / 60 % 60 ≤ 99 ∧ s % 60 ≤ 99 := by omega
  have v0 : 0 ≤ nano := by omega
  have v1 : nano ≤ 999999999 := by omega
  have o2 : -50400 ≤ off := by omega
  have o3 : off ≤ 50400 := by omega
  have oz : (off == 0) = false := by simp; omega
  have om : off.tdiv 60 = m := by rw [hoff, Int.mul_comm]; exact Int.mul_tdiv_cancel m (by decide)
  have on : off < 0 := by omega
  obtain ⟨a, ha⟩ : ∃ a, a = m.natAbs := ⟨_, rfl⟩
  have hal : a ≤ 840 := by omega
  obtain ⟨B, hB⟩ : ∃ B : Int, B = (a : Int) := ⟨_, rfl⟩
  have hmB : m = -B := by omega
  have b0 : 1 ≤ B := by omega
  have b1 : B ≤ 840 := by omega
  rw [hmB] at om
  have H := Lib.hid (And.intro hb (And.intro hA (And.intro hD (And.intro hD2 (And.intro hAs (And.intro hE (And.intro hn (And.intro ht hv1))))))))
  have HV := Lib.hid (And.intro hY (And.intro hM (And.intro hW (And.intro hx (And.intro hy (And.intro hz (And.intro hv (And.intro (year_le E n hE hn) (month_le n hn)))))))))
  have HL := Lib.hid (And.intro h0 (And.intro h1 (And.intro a0 a1)))
  have HZ := Lib.hid (And.intro ha (And.intro hB (And.intro hal (And.intro hoff hmB))))
  clear ha hB hal hoff hmB hm0 hm1
  clear hb hA hD hD2 hAs hE hn ht hY hM hW hx hy hz hv hA2 hext h0 h1 hs a0 a1 hv1
  go_enter Tryd.func77, Tryd.ntmps77
  go_wp2_with (first
    | (go_at_call 93; refine (appint2_at g (19 + 4) (19 + 6) (a % 60) _ _ (by omega) (by have := HZ.out.2.1; have := HZ.out.1; omega) (by have := HZ.out.2.2.1; omega) _ (H7.out.1.put1 _ 58 58 rfl (by omega) (19 + 4) (by omega)) (by omega)).mono ?_; rintro e w8 ⟨rfl, hb8, hg8⟩
       obtain ⟨u8, y8⟩ := hb8.cellA (19 + 6) (by omega)
       have z8 := hb8.frozenA (19 + 6)
       have H8 := Lib.hid (And.intro hb8 (grown_g (only_at (only_alloc H7.out.2 _) _ _) hg8)); clear hb8 hg8 y7 z7)
    | (go_at_call 93; refine (appint2_at g (19 + 1) (19 + 3) (a / 60) _ _ (by omega) (by have := HZ.out.2.1; have := HZ.out.1; omega) (by have := HZ.out.2.2.1; omega) _ (H6.out.1.put1 _ 45 45 rfl (by omega) (19 + 1) (by omega)) (by omega)).mono ?_; rintro e w7 ⟨rfl, hb7, hg7⟩
       obtain ⟨u7, y7⟩ := hb7.cellA (19 + 3) (by omega)
       have z7 := hb7.frozenA (19 + 3)
       have H7 := Lib.hid (And.intro hb7 (grown_g (only_at (only_alloc H6.out.2 _) _ _) hg7)); clear hb7 hg7 y6 z6)
    | (go_at_call 93; refine (appint2_at g (17) (19) (s % 60) _ z (by omega) HV.out.2.2.2.2.2.1 H.out.2.2.2.2.2.2.2.1.2.2 _ (H5.out.1.put1 _ 58 58 rfl (by omega) (17) (by omega)) (by omega)).mono ?_; rintro e w6 ⟨rfl, hb6, hg6⟩
       obtain ⟨u6, y6⟩ := hb6.cellA (19) (by omega)
       have z6 := hb6.frozenA (19)
       have H6 := Lib.hid (And.intro hb6 (grown_g (only_at (only_alloc H5.out.2 _) _ _) hg6)); clear hb6 hg6 y5 z5)
    | (go_at_call 93; refine (appint2_at g (14) (16) (s / 60 % 60) _ y (by omega) HV.out.2.2.2.2.1 H.out.2.2.2.2.2.2.2.1.2.1 _ (H4.out.1.put1 _ 58 58 rfl (by omega) (14) (by omega)) (by omega)).mono ?_; rintro e w5 ⟨rfl, hb5, hg5⟩
       obtain ⟨u5, y5⟩ := hb5.cellA (16) (by omega)
       have z5 := hb5.frozenA (16)
       have H5 := Lib.hid (And.intro hb5 (grown_g (only_at (only_alloc H4.out.2 _) _ _) hg5)); clear hb5 hg5 y4 z4)
    | (go_at_call 93; refine (appint2_at g (11) (13) (s / 3600) _ x (by omega) HV.out.2.2.2.1 H.out.2.2.2.2.2.2.2.1.1 _ (H3.out.1.put1 _ 84 84 rfl (by omega) (11) (by omega)) (by omega)).mono ?_; rintro e w4 ⟨rfl, hb4, hg4⟩
       obtain ⟨u4, y4⟩ := hb4.cellA (13) (by omega)
       have z4 := hb4.frozenA (13)
       have H4 := Lib.hid (And.intro hb4 (grown_g (only_at (only_alloc H3.out.2 _) _ _) hg4)); clear hb4 hg4 y3 z3)
    | (go_at_call 93; refine (appint2_at g (8) (10) (dayN n) _ W (by omega) HV.out.2.2.1 HV.out.2.2.2.2.2.2.2.2.2 _ (H2.out.1.put1 _ 45 45 rfl (by omega) (8) (by omega)) (by omega)).mono ?_; rintro e w3 ⟨rfl, hb3, hg3⟩
       obtain ⟨u3, y3⟩ := hb3.cellA (10) (by omega)
       have z3 := hb3.frozenA (10)
       have H3 := Lib.hid (And.intro hb3 (grown_g (only_at (only_alloc H2.out.2 _) _ _) hg3)); clear hb3 hg3 y2 z2)
    | (go_at_call 93; refine (appint2_at g (5) (7) (monthN n) _ M (by omega) HV.out.2.1 HV.out.2.2.2.2.2.2.2.2.1 _ (H1.out.1.put1 _ 45 45 rfl (by omega) (5) (by omega)) (by omega)).mono ?_; rintro e w2 ⟨rfl, hb2, hg2⟩
       obtain ⟨u2, y2⟩ := hb2.cellA (7) (by omega)
       have z2 := hb2.frozenA (7)
       have H2 := Lib.hid (And.intro hb2 (grown_g (only_at (only_alloc H1.out.2 _) _ _) hg2)); clear hb2 hg2 y1 z1)
    | (go_at_call 93; refine (appint4_at g (0) (4) (yearN E n) _ Y (by omega) HV.out.1 HV.out.2.2.2.2.2.2.2.1 _ H0.out.1 (by omega)).mono ?_; rintro e w1 ⟨rfl, hb1, hg1⟩
       obtain ⟨u1, y1⟩ := hb1.cellA (4) (by omega)
       have z1 := hb1.frozenA (4)
       have H1 := Lib.hid (And.intro hb1 (grown_g H0.out.2 hg1)); clear hb1 hg1)
    | (go_at_call 90; refine (locabs_at ext nano off A zone HL.out.1 HL.out.2.1 (by omega) (by omega) H.out.2.1 _).mono ?_; rintro e w0 ⟨rfl, hbl⟩
       have h0b := BH.grownA H.out.1 _ hbl
       have H0 := Lib.hid (And.intro h0b (only_of_below hbl (some g))); clear hbl h0b)
    | (go_at_call 91; refine (days_at A D HL.out.2.2.1 HL.out.2.2.2 H.out.2.2.1 _).mono ?_; rintro e wd ⟨rfl, rfl⟩)
    | (go_at_call 92; refine (date_at D Y M W E n H.out.2.2.2.1 HV.out.1 HV.out.2.1 HV.out.2.2.1 H.out.2.2.2.2.2.1 H.out.2.2.2.2.2.2.1 _).mono ?_; rintro e we ⟨rfl, rfl⟩)
    | (go_at_call 94; refine (clock_at A x y z s HL.out.2.2.1 HL.out.2.2.2 H.out.2.2.2.2.1 HV.out.2.2.2.1 HV.out.2.2.2.2.1 HV.out.2.2.2.2.2.1 _).mono ?_; rintro e wc ⟨rfl, rfl⟩))
  go_ret
  exact ⟨19 + 6, rfl, by omega, BH.cast (by unfold stampT zoneT; rw [if_neg (by have := HZ.out; omega), if_pos (by have := HZ.out; omega), ← HZ.out.1]; simp [List.append_assoc]) H8.out.1, (grown_of_alloc H8.out.2)⟩

set_option maxRecDepth 100000 in
set_option maxHeartbeats 2000000 in
theorem rfc_nano_utc (ext nano : Int) (E n s v g : Nat) (zone : ByteArray) (w : World) (hb : BH w g 0 []) (hext : ext - 62135596800 + 0 = 86400 * (146097 * (E : Int) + (n : Int) - 719468) + (s : Int)) (h0 : -9223372037 ≤ ext - 62135596800) (h1 : ext - 62135596800 ≤ 9223372037) (hE : E ≤ 10) (hn : n < 146097) (hs : s < 86400) (hv : nano = (v : Int)) (hv1 : v ≤ 999999999) :
    Calls Tryd.prog 77 #[.agg #[.int .i64 ext, .int .i32 nano, .string zone, .int .i64 0], .slice (some ⟨g, 0, none⟩) 0 64, .bool true] w fun e w' => ∃ k, e = .returned (.slice (some ⟨g, 0, none⟩) k 64) ∧ k ≤ 64 ∧ BH w' g k (stampT E n s ++ fracT v 9 ++ zoneT 0) ∧ w.grownBy w' (some g) := by
  obtain ⟨A, hA⟩ : ∃ A : Int, A = ext - 62135596800 + 0 + 9223372028741760000 := ⟨_, rfl⟩
  have hA2 : A = 86400 * (146097 * (730692556 + (E : Int)) + (n : Int)) + (s : Int) := by omega
  obtain ⟨D, hD⟩ : ∃ D : Int, D = A / 86400 := ⟨_, rfl⟩
  have hD2 : D = 146097 * (730692556 + (E : Int)) + (n : Int) := by omega
  have hAs : A % 86400 = (s : Int) := by omega
  have a0 : 0 ≤ A := by omega
  have a1 : A ≤ 18446744073709551615 := by omega
  obtain ⟨Y, hY⟩ : ∃ Y : Int, Y = (yearN E n : Int) := ⟨_, rfl⟩
  obtain ⟨M, hM⟩ : ∃ M : Int, M = (monthN n : Int) := ⟨_, rfl⟩
  obtain ⟨W, hW⟩ : ∃ W : Int, W = (dayN n : Int) := ⟨_, rfl⟩
  obtain ⟨x, hx⟩ : ∃ x : Int, x = (s / 3600 : Nat) := ⟨_, rfl⟩
  obtain ⟨y, hy⟩ : ∃ y : Int, y = (s / 60 % 60 : Nat) := ⟨_, rfl⟩
  obtain ⟨z, hz⟩ : ∃ z : Int, z = (s % 60 : Nat) := ⟨_, rfl⟩
  have ht : s / 3600 ≤ 99 ∧ s / 60 % 60 ≤ 99 ∧ s % 60 ≤ 99 := by omega
  have v0 : 0 ≤ nano := by omega
  have v1 : nano ≤ 999999999 := by omega
  have H := Lib.hid (And.intro hb (And.intro hA (And.intro hD (And.intro hD2 (And.intro hAs (And.intro hE (And.intro hn (And.intro ht hv1))))))))
  have HV := Lib.hid (And.intro hY (And.intro hM (And.intro hW (And.intro hx (And.intro hy (And.intro hz (And.intro hv (And.intro (year_le E n hE hn) (month_le n hn)))))))))
  have HL := Lib.hid (And.intro h0 (And.intro h1 (And.intro a0 a1)))
  clear hb hA hD hD2 hAs hE hn ht hY hM hW hx hy hz hv hA2 hext h0 h1 hs a0 a1 hv1
  go_enter Tryd.func77, Tryd.ntmps77
  go_wp2_with (first
    | (go_at_call 93; refine (appint2_at g (17) (19) (s % 60) _ z (by omega) HV.out.2.2.2.2.2.1 H.out.2.2.2.2.2.2.2.1.2.2 _ (H5.out.1.put1 _ 58 58 rfl (by omega) (17) (by omega)) (by omega)).mono ?_; rintro e w6 ⟨rfl, hb6, hg6⟩
       obtain ⟨u6, y6⟩ := hb6.cellA (19) (by omega)
       have z6 := hb6.frozenA (19)
       have H6 := Lib.hid (And.intro hb6 (grown_g (only_at (only_alloc H5.out.2 _) _ _) hg6)); clear hb6 hg6 y5 z5
       obtain ⟨-, c0, c1, c2, c3⟩ := Box.grown (Box.new w ext nano 0 zone 73) H6.out.2 (Nat.ne_of_gt H.out.1.lt))
    | (go_at_call 93; refine (appint2_at g (14) (16) (s / 60 % 60) _ y (by omega) HV.out.2.2.2.2.1 H.out.2.2.2.2.2.2.2.1.2.1 _ (H4.out.1.put1 _ 58 58 rfl (by omega) (14) (by omega)) (by omega)).mono ?_; rintro e w5 ⟨rfl, hb5, hg5⟩
       obtain ⟨u5, y5⟩ := hb5.cellA (16) (by omega)
       have z5 := hb5.frozenA (16)
       have H5 := Lib.hid (And.intro hb5 (grown_g (only_at (only_alloc H4.out.2 _) _ _) hg5)); clear hb5 hg5 y4 z4)
    | (go_at_call 93; refine (appint2_at g (11) (13) (s / 3600) _ x (by omega) HV.out.2.2.2.1 H.out.2.2.2.2.2.2.2.1.1 _ (H3.out.1.put1 _ 84 84 rfl (by omega) (11) (by omega)) (by omega)).mono ?_; rintro e w4 ⟨rfl, hb4, hg4⟩
       obtain ⟨u4, y4⟩ := hb4.cellA (13) (by omega)
       have z4 := hb4.frozenA (13)
       have H4 := Lib.hid (And.intro hb4 (grown_g (only_at (only_alloc H3.out.2 _) _ _) hg4)); clear hb4 hg4 y3 z3)
    | (go_at_call 93; refine (appint2_at g (8) (10) (dayN n) _ W (by omega) HV.out.2.2.1 HV.out.2.2.2.2.2.2.2.2.2 _ (H2.out.1.put1 _ 45 45 rfl (by omega) (8) (by omega)) (by omega)).mono ?_; rintro e w3 ⟨rfl, hb3, hg3⟩
       obtain ⟨u3, y3⟩ := hb3.cellA (10) (by omega)
       have z3 := hb3.frozenA (10)
       have H3 := Lib.hid (And.intro hb3 (grown_g (only_at (only_alloc H2.out.2 _) _ _) hg3)); clear hb3 hg3 y2 z2)
    | (go_at_call 93; refine (appint2_at g (5) (7) (monthN n) _ M (by omega) HV.out.2.1 HV.out.2.2.2.2.2.2.2.2.1 _ (H1.out.1.put1 _ 45 45 rfl (by omega) (5) (by omega)) (by omega)).mono ?_; rintro e w2 ⟨rfl, hb2, hg2⟩
       obtain ⟨u2, y2⟩ := hb2.cellA (7) (by omega)
       have z2 := hb2.frozenA (7)
       have H2 := Lib.hid (And.intro hb2 (grown_g (only_at (only_alloc H1.out.2 _) _ _) hg2)); clear hb2 hg2 y1 z1)
    | (go_at_call 93; refine (appint4_at g (0) (4) (yearN E n) _ Y (by omega) HV.out.1 HV.out.2.2.2.2.2.2.2.1 _ H0.out.1 (by omega)).mono ?_; rintro e w1 ⟨rfl, hb1, hg1⟩
       obtain ⟨u1, y1⟩ := hb1.cellA (4) (by omega)
       have z1 := hb1.frozenA (4)
       have H1 := Lib.hid (And.intro hb1 (grown_g H0.out.2 hg1)); clear hb1 hg1)
    | (go_at_call 90; refine (locabs_at ext nano 0 A zone HL.out.1 HL.out.2.1 (by omega) (by omega) H.out.2.1 _).mono ?_; rintro e w0 ⟨rfl, hbl⟩
       have h0b := BH.grownA H.out.1 _ hbl
       have H0 := Lib.hid (And.intro h0b (only_of_below hbl (some g))); clear hbl h0b)
    | (go_at_call 91; refine (days_at A D HL.out.2.2.1 HL.out.2.2.2 H.out.2.2.1 _).mono ?_; rintro e wd ⟨rfl, rfl⟩)
    | (go_at_call 92; refine (date_at D Y M W E n H.out.2.2.2.1 HV.out.1 HV.out.2.1 HV.out.2.2.1 H.out.2.2.2.2.2.1 H.out.2.2.2.2.2.2.1 _).mono ?_; rintro e we ⟨rfl, rfl⟩)
    | (go_at_call 94; refine (clock_at A x y z s HL.out.2.2.1 HL.out.2.2.2 H.out.2.2.2.2.1 HV.out.2.2.2.1 HV.out.2.2.2.2.1 HV.out.2.2.2.2.2.1 _).mono ?_; rintro e wc ⟨rfl, rfl⟩)
    | (go_at_call 95; refine (stdfrac _).mono ?_; rintro e wf ⟨rfl, rfl⟩)
    | (go_at_call 97; refine (nanosecond_at ext nano 0 zone (by omega) (by omega) _).mono ?_; rintro e wn ⟨rfl, hbn⟩
       have hb6n := H6.out.1.below hbn H6.out.1.lt
       have H6n := Lib.hid (And.intro hb6n (below_after H6.out.2 hbn)); clear hb6n hbn)
    | (go_at_call 96; refine (appnano g 19 v _ nano HV.out.2.2.2.2.2.2.1 H.out.2.2.2.2.2.2.2.2 _ H6n.out.1 (by omega)).mono ?_; rintro e w7 ⟨k, rfl, hk, hb7, hg7⟩
       have hk9 : (fracT v 9).length ≤ 10 := fracT_len v 9
       have hk2 : k ≤ 29 := by omega
       obtain ⟨u7, y7⟩ := hb7.cellA (k) (by omega)
       have z7 := hb7.frozenA (k)
       have H7 := Lib.hid (And.intro hb7 (grown_g H6n.out.2 hg7)); clear hb7 hg7 y6 z6
       have HK := Lib.hid hk; clear hk hk9))
  go_ret
  exact ⟨k + 1, rfl, by omega, BH.cast (by unfold stampT zoneT; rw [if_pos rfl]; simp [List.append_assoc]) (H7.out.1.put1 _ 90 90 rfl (by omega) (k + 1) (by omega)), (grown_of_alloc (only_at (only_alloc H7.out.2 _) _ _))⟩

set_option maxRecDepth 100000 in
set_option maxHeartbeats 2000000 in
theorem rfc_nano_east (ext nano : Int) (m : Int) (hm0 : 1 ≤ m) (hm1 : m ≤ 840) (E n s v g : Nat) (zone : ByteArray) (w : World) (hb : BH w g 0 []) (off : Int) (hoff : off = 60 * m) (hext : ext - 62135596800 + off = 86400 * (146097 * (E : Int) + (n : Int) - 719468) + (s : Int)) (h0 : -9223372037 ≤ ext - 62135596800) (h1 : ext - 62135596800 ≤ 9223372037) (hE : E ≤ 10) (hn : n < 146097) (hs : s < 86400) (hv : nano = (v : Int)) (hv1 : v ≤ 999999999) :
    Calls Tryd.prog 77 #[.agg #[.int .i64 ext, .int .i32 nano, .string zone, .int .i64 off], .slice (some ⟨g, 0, none⟩) 0 64, .bool true] w fun e w' => ∃ k, e = .returned (.slice (some ⟨g, 0, none⟩) k 64) ∧ k ≤ 64 ∧ BH w' g k (stampT E n s ++ fracT v 9 ++ zoneT m) ∧ w.grownBy w' (some g) := by
  obtain ⟨A, hA⟩ : ∃ A : Int, A = ext - 62135596800 + off + 9223372028741760000 := ⟨_, rfl⟩
  have hA2 : A = 86400 * (146097 * (730692556 + (E : Int)) + (n : Int)) + (s : Int) := by omega
  obtain ⟨D, hD⟩ : ∃ D : Int, D = A / 86400 := ⟨_, rfl⟩
  have hD2 : D = 146097 * (730692556 + (E : Int)) + (n : Int) := by omega
  have hAs : A % 86400 = (s : Int) := by omega
  have a0 : 0 ≤ A := by omega
  have a1 : A ≤ 18446744073709551615 := by omega
  obtain ⟨Y, hY⟩ : ∃ Y : Int, Y = (yearN E n : Int) := ⟨_, rfl⟩
  obtain ⟨M, hM⟩ : ∃ M : Int, M = (monthN n : Int) := ⟨_, rfl⟩
  obtain ⟨W, hW⟩ : ∃ W : Int, W = (dayN n : Int) := ⟨_, rfl⟩
  obtain ⟨x, hx⟩ : ∃ x : Int, x = (s / 3600 : Nat) := ⟨_, rfl⟩
  obtain ⟨y, hy⟩ : ∃ y : Int, y = (s / 60 % 60 : Nat) := ⟨_, rfl⟩
  obtain ⟨z, hz⟩ : ∃ z : Int, z = (s % 60 : Nat) := ⟨_, rfl⟩
  have ht : s / 3600 ≤ 99 ∧ s / 60 % 60 ≤ 99 ∧ s % 60 ≤ 99 := by omega
  have v0 : 0 ≤ nano := by omega
  have v1 : nano ≤ 999999999 := by omega
  have o2 : -50400 ≤ off := by omega
  have o3 : off ≤ 50400 := by omega
  have oz : (off == 0) = false := by simp; omega
  have om : off / 60 = m := by omega
  obtain ⟨a, ha⟩ : ∃ a, a = m.natAbs := ⟨_, rfl⟩
  have hal : a ≤ 840 := by omega
  obtain ⟨B, hB⟩ : ∃ B : Int, B = (a : Int) := ⟨_, rfl⟩
  have hmB : m = B := by omega
  have b0 : 1 ≤ B := by omega
  have b1 : B ≤ 840 := by omega
  rw [hmB] at om
  have H := Lib.hid (And.intro hb (And.intro hA (And.intro hD (And.intro hD2 (And.intro hAs (And.intro hE (And.intro hn (And.intro ht hv1))))))))
  have HV := Lib.hid (And.intro hY (And.intro hM (And.intro hW (And.intro hx (And.intro hy (And.intro hz (And.intro hv (And.intro (year_le E n hE hn) (month_le n hn)))))))))
  have HL := Lib.hid (And.intro h0 (And.intro h1 (And.intro a0 a1)))
  have HZ := Lib.hid (And.intro ha (And.intro hB (And.intro hal (And.intro hoff hmB))))
  clear ha hB hal hoff hmB hm0 hm1
  clear hb hA hD hD2 hAs hE hn ht hY hM hW hx hy hz hv hA2 hext h0 h1 hs a0 a1 hv1
  go_enter Tryd.func77, Tryd.ntmps77
  go_wp2_with (first
    | (go_at_call 93; refine (appint2_at g (k + 4) (k + 6) (a % 60) _ _ (by omega) (by have := HZ.out.2.1; have := HZ.out.1; omega) (by have := HZ.out.2.2.1; omega) _ (H8.out.1.put1 _ 58 58 rfl (by omega) (k + 4) (by omega)) (by omega)).mono ?_; rintro e w9 ⟨rfl, hb9, hg9⟩
       obtain ⟨u9, y9⟩ := hb9.cellA (k + 6) (by omega)
       have z9 := hb9.frozenA (k + 6)
       have H9 := Lib.hid (And.intro hb9 (grown_g (only_at (only_alloc H8.out.2 _) _ _) hg9)); clear hb9 hg9 y8 z8)
    | (go_at_call 93; refine (appint2_at g (k + 1) (k + 3) (a / 60) _ _ (by omega) (by have := HZ.out.2.1; have := HZ.out.1; omega) (by have := HZ.out.2.2.1; omega) _ (H7.out.1.put1 _ 43 43 rfl (by omega) (k + 1) (by omega)) (by omega)).mono ?_; rintro e w8 ⟨rfl, hb8, hg8⟩
       obtain ⟨u8, y8⟩ := hb8.cellA (k + 3) (by omega)
       have z8 := hb8.frozenA (k + 3)
       have H8 := Lib.hid (And.intro hb8 (grown_g (only_at (only_alloc H7.out.2 _) _ _) hg8)); clear hb8 hg8 y7 z7)
    | (go_at_call 93; refine (appint2_at g (17) (19) (s % 60) _ z (by omega) HV.out.2.2.2.2.2.1 H.out.2.2.2.2.2.2.2.1.2.2 _ (H5.out.1.put1 _ 58 58 rfl (by omega) (17) (by omega)) (by omega)).mono ?_; rintro e w6 ⟨rfl, hb6, hg6⟩
       obtain ⟨u6, y6⟩ := hb6.cellA (19) (by omega)
       have z6 := hb6.frozenA (19)
       have H6 := Lib.hid (And.intro hb6 (grown_g (only_at (only_alloc H5.out.2 _) _ _) hg6)); clear hb6 hg6 y5 z5
       obtain ⟨-, c0, c1, c2, c3⟩ := Box.grown (Box.new w ext nano off zone 73) H6.out.2 (Nat.ne_of_gt H.out.1.lt))
    | (go_at_call 93; refine (appint2_at g (14) (16) (s / 60 % 60) _ y (by omega) HV.out.2.2.2.2.1 H.out.2.2.2.2.2.2.2.1.2.1 _ (H4.out.1.put1 _ 58 58 rfl (by omega) (14) (by omega)) (by omega)).mono ?_; rintro e w5 ⟨rfl, hb5, hg5⟩
       obtain ⟨u5, y5⟩ := hb5.cellA (16) (by omega)
       have z5 := hb5.frozenA (16)
       have H5 := Lib.hid (And.intro hb5 (grown_g (only_at (only_alloc H4.out.2 _) _ _) hg5)); clear hb5 hg5 y4 z4)
    | (go_at_call 93; refine (appint2_at g (11) (13) (s / 3600) _ x (by omega) HV.out.2.2.2.1 H.out.2.2.2.2.2.2.2.1.1 _ (H3.out.1.put1 _ 84 84 rfl (by omega) (11) (by omega)) (by omega)).mono ?_; rintro e w4 ⟨rfl, hb4, hg4⟩
       obtain ⟨u4, y4⟩ := hb4.cellA (13) (by omega)
       have z4 := hb4.frozenA (13)
       have H4 := Lib.hid (And.intro hb4 (grown_g (only_at (only_alloc H3.out.2 _) _ _) hg4)); clear hb4 hg4 y3 z3)
    | (go_at_call 93; refine (appint2_at g (8) (10) (dayN n) _ W (by omega) HV.out.2.2.1 HV.out.2.2.2.2.2.2.2.2.2 _ (H2.out.1.put1 _ 45 45 rfl (by omega) (8) (by omega)) (by omega)).mono ?_; rintro e w3 ⟨rfl, hb3, hg3⟩
       obtain ⟨u3, y3⟩ := hb3.cellA (10) (by omega)
       have z3 := hb3.frozenA (10)
       have H3 := Lib.hid (And.intro hb3 (grown_g (only_at (only_alloc H2.out.2 _) _ _) hg3)); clear hb3 hg3 y2 z2)
    | (go_at_call 93; refine (appint2_at g (5) (7) (monthN n) _ M (by omega) HV.out.2.1 HV.out.2.2.2.2.2.2.2.2.1 _ (H1.out.1.put1 _ 45 45 rfl (by omega) (5) (by omega)) (by omega)).mono ?_; rintro e w2 ⟨rfl, hb2, hg2⟩
       obtain ⟨u2, y2⟩ := hb2.cellA (7) (by omega)
       have z2 := hb2.frozenA (7)
       have H2 := Lib.hid (And.intro hb2 (grown_g (only_at (only_alloc H1.out.2 _) _ _) hg2)); clear hb2 hg2 y1 z1)
    | (go_at_call 93; refine (appint4_at g (0) (4) (yearN E n) _ Y (by omega) HV.out.1 HV.out.2.2.2.2.2.2.2.1 _ H0.out.1 (by omega)).mono ?_; rintro e w1 ⟨rfl, hb1, hg1⟩
       obtain ⟨u1, y1⟩ := hb1.cellA (4) (by omega)
       have z1 := hb1.frozenA (4)
       have H1 := Lib.hid (And.intro hb1 (grown_g H0.out.2 hg1)); clear hb1 hg1)
    | (go_at_call 90; refine (locabs_at ext nano off A zone HL.out.1 HL.out.2.1 (by omega) (by omega) H.out.2.1 _).mono ?_; rintro e w0 ⟨rfl, hbl⟩
       have h0b := BH.grownA H.out.1 _ hbl
       have H0 := Lib.hid (And.intro h0b (only_of_below hbl (some g))); clear hbl h0b)
    | (go_at_call 91; refine (days_at A D HL.out.2.2.1 HL.out.2.2.2 H.out.2.2.1 _).mono ?_; rintro e wd ⟨rfl, rfl⟩)
    | (go_at_call 92; refine (date_at D Y M W E n H.out.2.2.2.1 HV.out.1 HV.out.2.1 HV.out.2.2.1 H.out.2.2.2.2.2.1 H.out.2.2.2.2.2.2.1 _).mono ?_; rintro e we ⟨rfl, rfl⟩)
    | (go_at_call 94; refine (clock_at A x y z s HL.out.2.2.1 HL.out.2.2.2 H.out.2.2.2.2.1 HV.out.2.2.2.1 HV.out.2.2.2.2.1 HV.out.2.2.2.2.2.1 _).mono ?_; rintro e wc ⟨rfl, rfl⟩)
    | (go_at_call 95; refine (stdfrac _).mono ?_; rintro e wf ⟨rfl, rfl⟩)
    | (go_at_call 97; refine (nanosecond_at ext nano off zone (by omega) (by omega) _).mono ?_; rintro e wn ⟨rfl, hbn⟩
       have hb6n := H6.out.1.below hbn H6.out.1.lt
       have H6n := Lib.hid (And.intro hb6n (below_after H6.out.2 hbn)); clear hb6n hbn)
    | (go_at_call 96; refine (appnano g 19 v _ nano HV.out.2.2.2.2.2.2.1 H.out.2.2.2.2.2.2.2.2 _ H6n.out.1 (by omega)).mono ?_; rintro e w7 ⟨k, rfl, hk, hb7, hg7⟩
       have hk9 : (fracT v 9).length ≤ 10 := fracT_len v 9
       have hk2 : k ≤ 29 := by omega
       obtain ⟨u7, y7⟩ := hb7.cellA (k) (by omega)
       have z7 := hb7.frozenA (k)
       have H7 := Lib.hid (And.intro hb7 (grown_g H6n.out.2 hg7)); clear hb7 hg7 y6 z6
       have HK := Lib.hid hk; clear hk hk9))
  go_ret
  exact ⟨k + 6, rfl, by omega, BH.cast (by unfold stampT zoneT; rw [if_neg (by have := HZ.out; omega), if_neg (by have := HZ.out; omega), ← HZ.out.1]; simp [List.append_assoc]) H9.out.1, (grown_of_alloc H9.out.2)⟩

set_option maxRecDepth 100000 in
set_option maxHeartbeats 2000000 in
theorem rfc_nano_west (ext nano : Int) (m : Int) (hm0 : m ≤ -1) (hm1 : -840 ≤ m) (E n s v g : Nat) (zone : ByteArray) (w : World) (hb : BH w g 0 []) (off : Int) (hoff : off = 60 * m) (hext : ext - 62135596800 + off = 86400 * (146097 * (E : Int) + (n : Int) - 719468) + (s : Int)) (h0 : -9223372037 ≤ ext - 62135596800) (h1 : ext - 62135596800 ≤ 9223372037) (hE : E ≤ 10) (hn : n < 146097) (hs : s < 86400) (hv : nano = (v : Int)) (hv1 : v ≤ 999999999) :
    Calls Tryd.prog 77 #[.agg #[.int .i64 ext, .int .i32 nano, .string zone, .int .i64 off], .slice (some ⟨g, 0, none⟩) 0 64, .bool true] w fun e w' => ∃ k, e = .returned (.slice (some ⟨g, 0, none⟩) k 64) ∧ k ≤ 64 ∧ BH w' g k (stampT E n s ++ fracT v 9 ++ zoneT m) ∧ w.grownBy w' (some g) := by
  obtain ⟨A, hA⟩ : ∃ A : Int, A = ext - 62135596800 + off + 9223372028741760000 := ⟨_, rfl⟩
  have hA2 : A = 86400 * (146097 * (730692556 + (E : Int)) + (n : Int)) + (s : Int) := by omega
  obtain ⟨D, hD⟩ : ∃ D : Int, D = A / 86400 := ⟨_, rfl⟩
  have hD2 : D = 146097 * (730692556 + (E : Int)) + (n : Int) := by omega
  have hAs : A % 86400 = (s : Int) := by omega
  have a0 : 0 ≤ A := by omega
  have a1 : A ≤ 18446744073709551615 := by omega
  obtain ⟨Y, hY⟩ : ∃ Y : Int, Y = (yearN E n : Int) := ⟨_, rfl⟩
  obtain ⟨M, hM⟩ : ∃ M : Int, M = (monthN n : Int) := ⟨_, rfl⟩
  obtain ⟨W, hW⟩ : ∃ W : Int, W = (dayN n : Int) := ⟨_, rfl⟩
  obtain ⟨x, hx⟩ : ∃ x : Int, x = (s / 3600 : Nat) := ⟨_, rfl⟩
  obtain ⟨y, hy⟩ : ∃ y : Int, y = (s / 60 % 60 : Nat) := ⟨_, rfl⟩
  obtain ⟨z, hz⟩ : ∃ z : Int, z = (s % 60 : Nat) := ⟨_, rfl⟩
  have ht : s / 3600 ≤ 99 ∧ s / 60 % 60 ≤ 99 ∧ s % 60 ≤ 99 := by omega
  have v0 : 0 ≤ nano := by omega
  have v1 : nano ≤ 999999999 := by omega
  have o2 : -50400 ≤ off := by omega
  have o3 : off ≤ 50400 := by omega
  have oz : (off == 0) = false := by simp; omega
  have om : off.tdiv 60 = m := by rw [hoff, Int.mul_comm]; exact Int.mul_tdiv_cancel m (by decide)
  have on : off < 0 := by omega
  obtain ⟨a, ha⟩ : ∃ a, a = m.natAbs := ⟨_, rfl⟩
  have hal : a ≤ 840 := by omega
  obtain ⟨B, hB⟩ : ∃ B : Int, B = (a : Int) := ⟨_, rfl⟩
  have hmB : m = -B := by omega
  have b0 : 1 ≤ B := by omega
  have b1 : B ≤ 840 := by omega
  rw [hmB] at om
  have H := Lib.hid (And.intro hb (And.intro hA (And.intro hD (And.intro hD2 (And.intro hAs (And.intro hE (And.intro hn (And.intro ht hv1))))))))
  have HV := Lib.hid (And.intro hY (And.intro hM (And.intro hW (And.intro hx (And.intro hy (And.intro hz (And.intro hv (And.intro (year_le E n hE hn) (month_le n hn)))))))))
  have HL := Lib.hid (And.intro h0 (And.intro h1 (And.intro a0 a1)))
  have HZ := Lib.hid (And.intro ha (And.intro hB (And.intro hal (And.intro hoff hmB))))
  clear ha hB hal hoff hmB hm0 hm1
  clear hb hA hD hD2 hAs hE hn ht hY hM hW hx hy hz hv hA2 hext h0 h1 hs a0 a1 hv1
  go_enter Tryd.func77, Tryd.ntmps77
  go_wp2_with (first
    | (go_at_call 93; refine (appint2_at g (k + 4) (k + 6) (a % 60) _ _ (by omega) (by have := HZ.out.2.1; have := HZ.out.1; omega) (by have := HZ.out.2.2.1; omega) _ (H8.out.1.put1 _ 58 58 rfl (by omega) (k + 4) (by omega)) (by omega)).mono ?_; rintro e w9 ⟨rfl, hb9, hg9⟩
       obtain ⟨u9, y9⟩ := hb9.cellA (k + 6) (by omega)
       have z9 := hb9.frozenA (k + 6)
       have H9 := Lib.hid (And.intro hb9 (grown_g (only_at (only_alloc H8.out.2 _) _ _) hg9)); clear hb9 hg9 y8 z8)
    | (go_at_call 93; refine (appint2_at g (k + 1) (k + 3) (a / 60) _ _ (by omega) (by have := HZ.out.2.1; have := HZ.out.1; omega) (by have := HZ.out.2.2.1; omega) _ (H7.out.1.put1 _ 45 45 rfl (by omega) (k + 1) (by omega)) (by omega)).mono ?_; rintro e w8 ⟨rfl, hb8, hg8⟩
       obtain ⟨u8, y8⟩ := hb8.cellA (k + 3) (by omega)
       have z8 := hb8.frozenA (k + 3)
       have H8 := Lib.hid (And.intro hb8 (grown_g (only_at (only_alloc H7.out.2 _) _ _) hg8)); clear hb8 hg8 y7 z7)
    | (go_at_call 93; refine (appint2_at g (17) (19) (s % 60) _ z (by omega) HV.out.2.2.2.2.2.1 H.out.2.2.2.2.2.2.2.1.2.2 _ (H5.out.1.put1 _ 58 58 rfl (by omega) (17) (by omega)) (by omega)).mono ?_; rintro e w6 ⟨rfl, hb6, hg6⟩
       obtain ⟨u6, y6⟩ := hb6.cellA (19) (by omega)
       have z6 := hb6.frozenA (19)
       have H6 := Lib.hid (And.intro hb6 (grown_g (only_at (only_alloc H5.out.2 _) _ _) hg6)); clear hb6 hg6 y5 z5
       obtain ⟨-, c0, c1, c2, c3⟩ := Box.grown (Box.new w ext nano off zone 73) H6.out.2 (Nat.ne_of_gt H.out.1.lt))
    | (go_at_call 93; refine (appint2_at g (14) (16) (s / 60 % 60) _ y (by omega) HV.out.2.2.2.2.1 H.out.2.2.2.2.2.2.2.1.2.1 _ (H4.out.1.put1 _ 58 58 rfl (by omega) (14) (by omega)) (by omega)).mono ?_; rintro e w5 ⟨rfl, hb5, hg5⟩
       obtain ⟨u5, y5⟩ := hb5.cellA (16) (by omega)
       have z5 := hb5.frozenA (16)
       have H5 := Lib.hid (And.intro hb5 (grown_g (only_at (only_alloc H4.out.2 _) _ _) hg5)); clear hb5 hg5 y4 z4)
    | (go_at_call 93; refine (appint2_at g (11) (13) (s / 3600) _ x (by omega) HV.out.2.2.2.1 H.out.2.2.2.2.2.2.2.1.1 _ (H3.out.1.put1 _ 84 84 rfl (by omega) (11) (by omega)) (by omega)).mono ?_; rintro e w4 ⟨rfl, hb4, hg4⟩
       obtain ⟨u4, y4⟩ := hb4.cellA (13) (by omega)
       have z4 := hb4.frozenA (13)
       have H4 := Lib.hid (And.intro hb4 (grown_g (only_at (only_alloc H3.out.2 _) _ _) hg4)); clear hb4 hg4 y3 z3)
    | (go_at_call 93; refine (appint2_at g (8) (10) (dayN n) _ W (by omega) HV.out.2.2.1 HV.out.2.2.2.2.2.2.2.2.2 _ (H2.out.1.put1 _ 45 45 rfl (by omega) (8) (by omega)) (by omega)).mono ?_; rintro e w3 ⟨rfl, hb3, hg3⟩
       obtain ⟨u3, y3⟩ := hb3.cellA (10) (by omega)
       have z3 := hb3.frozenA (10)
       have H3 := Lib.hid (And.intro hb3 (grown_g (only_at (only_alloc H2.out.2 _) _ _) hg3)); clear hb3 hg3 y2 z2)
    | (go_at_call 93; refine (appint2_at g (5) (7) (monthN n) _ M (by omega) HV.out.2.1 HV.out.2.2.2.2.2.2.2.2.1 _ (H1.out.1.put1 _ 45 45 rfl (by omega) (5) (by omega)) (by omega)).mono ?_; rintro e w2 ⟨rfl, hb2, hg2⟩
       obtain ⟨u2, y2⟩ := hb2.cellA (7) (by omega)
       have z2 := hb2.frozenA (7)
       have H2 := Lib.hid (And.intro hb2 (grown_g (only_at (only_alloc H1.out.2 _) _ _) hg2)); clear hb2 hg2 y1 z1)
    | (go_at_call 93; refine (appint4_at g (0) (4) (yearN E n) _ Y (by omega) HV.out.1 HV.out.2.2.2.2.2.2.2.1 _ H0.out.1 (by omega)).mono ?_; rintro e w1 ⟨rfl, hb1, hg1⟩
       obtain ⟨u1, y1⟩ := hb1.cellA (4) (by omega)
       have z1 := hb1.frozenA (4)
       have H1 := Lib.hid (And.intro hb1 (grown_g H0.out.2 hg1)); clear hb1 hg1)
    | (go_at_call 90; refine (locabs_at ext nano off A zone HL.out.1 HL.out.2.1 (by omega) (by omega) H.out.2.1 _).mono ?_; rintro e w0 ⟨rfl, hbl⟩
       have h0b := BH.grownA H.out.1 _ hbl
       have H0 := Lib.hid (And.intro h0b (only_of_below hbl (some g))); clear hbl h0b)
    | (go_at_call 91; refine (days_at A D HL.out.2.2.1 HL.out.2.2.2 H.out.2.2.1 _).mono ?_; rintro e wd ⟨rfl, rfl⟩)
    | (go_at_call 92; refine (date_at D Y M W E n H.out.2.2.2.1 HV.out.1 HV.out.2.1 HV.out.2.2.1 H.out.2.2.2.2.2.1 H.out.2.2.2.2.2.2.1 _).mono ?_; rintro e we ⟨rfl, rfl⟩)
    | (go_at_call 94; refine (clock_at A x y z s HL.out.2.2.1 HL.out.2.2.2 H.out.2.2.2.2.1 HV.out.2.2.2.1 HV.out.2.2.2.2.1 HV.out.2.2.2.2.2.1 _).mono ?_; rintro e wc ⟨rfl, rfl⟩)
    | (go_at_call 95; refine (stdfrac _).mono ?_; rintro e wf ⟨rfl, rfl⟩)
    | (go_at_call 97; refine (nanosecond_at ext nano off zone (by omega) (by omega) _).mono ?_; rintro e wn ⟨rfl, hbn⟩
       have hb6n := H6.out.1.below hbn H6.out.1.lt
       have H6n := Lib.hid (And.intro hb6n (below_after H6.out.2 hbn)); clear hb6n hbn)
    | (go_at_call 96; refine (appnano g 19 v _ nano HV.out.2.2.2.2.2.2.1 H.out.2.2.2.2.2.2.2.2 _ H6n.out.1 (by omega)).mono ?_; rintro e w7 ⟨k, rfl, hk, hb7, hg7⟩
       have hk9 : (fracT v 9).length ≤ 10 := fracT_len v 9
       have hk2 : k ≤ 29 := by omega
       obtain ⟨u7, y7⟩ := hb7.cellA (k) (by omega)
       have z7 := hb7.frozenA (k)
       have H7 := Lib.hid (And.intro hb7 (grown_g H6n.out.2 hg7)); clear hb7 hg7 y6 z6
       have HK := Lib.hid hk; clear hk hk9))
  go_ret
  exact ⟨k + 6, rfl, by omega, BH.cast (by unfold stampT zoneT; rw [if_neg (by have := HZ.out; omega), if_pos (by have := HZ.out; omega), ← HZ.out.1]; simp [List.append_assoc]) H9.out.1, (grown_of_alloc H9.out.2)⟩
end Go.Proofs.YtdbnconphcaclaaDoor
