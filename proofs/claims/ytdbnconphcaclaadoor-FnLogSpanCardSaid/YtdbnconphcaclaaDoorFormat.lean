/-
  package time's Duration.format: a duration as a text in the tail of a buffer of 32 bytes (printed by wip/gen_format.py). Conditions: as the theorems say.
-/
import Derived.Test.YtdbnconphcaclaaDoorFrac
import Derived.Laws.IdiomCopy
import Derived.Lib.AppendStr
namespace Go.Proofs.YtdbnconphcaclaaDoor
open Go.RowKit
set_option linter.unusedVariables false

theorem BufT.put' {w : World} {b k : Nat} {l : List UInt8} (h : BufT w b k l) (x : UInt8) (v : Int) (hv : v = x.toNat) (j : Nat) (hj : j + 1 = k) (hk : k ≤ 32) : BufT (w.setCell ⟨b, j, none⟩ (.int .u8 v)) b j (x :: l) := by
  subst hv
  exact h.put x j hj hk
set_option maxRecDepth 100000 in
theorem arr32 : Tryd.prog.arrayLen 104 = 32 := by decide +kernel
theorem slice32 (b : Nat) (h : Int) (k : Nat) (e : h = k) (hk : k ≤ 32) : ∀ w : World, (Instr.sliceAt 104 (.pointer (some ⟨b, 0, none⟩)) none (some (.int .i64 h)) none).run Tryd.prog w = .ok (.slice (some ⟨b, 0, none⟩) k 32) w := by
  intro w
  subst e
  have he : Tryd.prog.elem 104 = 5 := by kernel_rfl
  rw [run_sliceAt_array_h w 104 ⟨b, 0, none⟩ (by rw [arr32, he]; exact Tryd.underlying104) .i64 k (by omega) (by rw [arr32]; omega), arr32]
  obtain ⟨ti, hi, hz0, hz1, hz2⟩ := info_parts byte_info
  simp [sizeOf, typeInfo, hi, hz1, slicedAt, he, Addr.add_lit]
theorem only_at {a w : World} {g : Nat} (h : a.grownBy w (some g)) (j : Nat) (v : Value) : a.grownBy (w.setCell ⟨g, j, none⟩ v) (some g) := only_setCell h (.inl rfl) v
theorem BufT.some {w : World} {b k : Nat} {l : List UInt8} (h : BufT w b k l) (j : Nat) (hj : j < 32) : (w.cell? ⟨b, j, none⟩).isSome = true := by
  obtain ⟨u, hu⟩ := h.cell j hj
  rw [hu]
  rfl
theorem BufT.put2 {w : World} {b : Nat} {l : List UInt8} (h : BufT w b 31 l) : BufT ((w.setCell ⟨b, 29, none⟩ (.int .u8 194)).setCell ⟨b, 30, none⟩ (.int .u8 181)) b 29 (194 :: 181 :: l) := by
  obtain ⟨T, cs, hb, hs, hd⟩ := h
  refine ⟨T, _, (hb.set_ 29 _).set_ 30 _, by simp [hs], ?_⟩
  rw [List.drop_eq_getElem_cons (by simp [hs]), List.drop_eq_getElem_cons (by simp [hs])]
  have e1 : ((cs.setIfInBounds 29 (Value.int .u8 194)).setIfInBounds 30 (Value.int .u8 181)).toList.drop (29 + 1 + 1) = cs.toList.drop 31 := by
    rw [Array.toList_setIfInBounds, List.drop_set_of_lt (by omega), Array.toList_setIfInBounds, List.drop_set_of_lt (by omega)]
  rw [e1, hd]
  simp [bytesV]
theorem copy_mu (w : World) (b : Nat) (ty : TypeId) (hc : ∀ j, j < 32 → (w.cell? ⟨b, j, none⟩).isSome = true) (hf : ∀ j, w.frozen? ⟨b, j, none⟩ = false) :
    (Builtin.copy_ #[29, 9] ty #[.slice (some ⟨b, 29, none⟩) 3 3, .string ⟨#[194, 181]⟩]).run Tryd.prog w = .ok (.int .i64 2) ((w.setCell ⟨b, 29, none⟩ (.int .u8 194)).setCell ⟨b, 30, none⟩ (.int .u8 181)) := by
  have hsz : (ByteArray.mk #[194, 181]).size = 2 := rfl
  have hst := run_storeCells_cells (P := Tryd.prog) b 29 (Lib.strCells ⟨#[194, 181]⟩) 0 w (fun j hj => hc _ (by rw [Lib.strCells_length, hsz] at hj; omega)) (fun j hj => hf _) (Lib.strCells_oneCell _)
  have hfc := Lib.run_firstCells_string (P := Tryd.prog) w 1 ⟨#[194, 181]⟩
  have he : w.setCells b (29 + 0) (Lib.strCells ⟨#[194, 181]⟩) = (w.setCell ⟨b, 29, none⟩ (.int .u8 194)).setCell ⟨b, 30, none⟩ (.int .u8 181) := rfl
  rw [he] at hst
  obtain ⟨ti, hi, hz0, hz1, hz2⟩ := info_parts byte_info
  have hm : Nat.min (ByteArray.mk #[194, 181]).size 3 = (ByteArray.mk #[194, 181]).size := rfl
  have hx : (ByteArray.mk #[194, 181]).size.min 3 = 2 := rfl
  rw [hsz] at hfc hm
  simp [Builtin.copy_, run_underlying Tryd.underlying29, Builtin.lenOf, sizeOf, typeInfo, hi, hz1, hsz, hfc, hst, goInt]
theorem fmtint_at (b n c : Nat) (l : List UInt8) (v : Nat) (w : World) (x : Int) (n' : Nat) (hx : x = v) (hn' : n' = n) (hb : BufT w b n l) (hv : v ≤ 18446744073709551615) (hn : n ≤ 32) (hc : n ≤ c) (hc1 : c ≤ 32) (hl : (decs v).length ≤ n) :
    Calls Tryd.prog 68 #[.slice (some ⟨b, 0, none⟩) n' c, .int .u64 x] w fun e w' => ∃ k : Nat, e = .returned (.int .i64 k) ∧ k + (decs v).length = n ∧ BufT w' b k (decs v ++ l) ∧ w.grownBy w' (some b) := by
  subst hx hn'
  exact fmtint b n' c l v w hb hv hn hc hc1 hl
theorem fmtfrac_at (b n c : Nat) (l : List UInt8) (v p : Nat) (q pi : Int) (w : World) (n' : Nat) (x : Int) (hx : x = (v : Int)) (hpi : pi = p) (hq : q = (v / 10 ^ p : Nat)) (hn' : n' = n) (hb : BufT w b n l) (hv : v ≤ 18446744073709551615) (hn : n ≤ 32) (hc : n ≤ c) (hc1 : c ≤ 32) (hp : p + 1 ≤ n) :
    Calls Tryd.prog 67 #[.slice (some ⟨b, 0, none⟩) n' c, .int .u64 x, .int .i64 pi] w fun e w' => ∃ k : Nat, e = .returned (.tuple #[.int .i64 k, .int .u64 q]) ∧ k + (fracT v p).length = n ∧ BufT w' b k (fracT v p ++ l) ∧ w.grownBy w' (some b) := by
  subst hq hn' hx hpi
  exact fmtfrac b n' c l v p w hb hv hn hc hc1 hp
theorem fracT_length (v p : Nat) : (fracT v p).length ≤ p + 1 := by
  unfold fracT
  have := fracs_length v p
  split
  · simp
  · simp only [List.length_cons]; omega

/-- What format leaves. -/
def FmtRet (b : Nat) (T : List UInt8) (w : World) (e : Ending) (w' : World) : Prop := ∃ k : Nat, e = .returned (.int .i64 k) ∧ k ≤ 32 ∧ BufT w' b k T ∧ w.grownBy w' (some b)

set_option maxRecDepth 100000 in
set_option maxHeartbeats 1000000 in
theorem format_ns_pos (b u : Nat) (U : Int) (hU : U = (u : Int)) (w : World) (hb : BufT w b 32 []) (h0 : 1 ≤ u) (h1 : u ≤ 999) :
    Calls Tryd.prog 47 #[.int .i64 (U), .pointer (some ⟨b, 0, none⟩)] w (FmtRet b (decs (u / 10 ^ 0) ++ (fracT u 0 ++ [110, 115])) w) := by
  obtain ⟨x31, y31⟩ := hb.cell 31 (by decide)
  have z31 := hb.frozen 31
  obtain ⟨x30, y30⟩ := hb.cell 30 (by decide)
  have z30 := hb.frozen 30
  obtain ⟨x29, y29⟩ := hb.cell 29 (by decide)
  have z29 := hb.frozen 29
  have e0 : (U == 0) = false := by simp; omega
  have u0 : 1 ≤ U := by omega
  have u1 : U ≤ 9223372036854775808 := by omega
  have t1000 : U ≤ 999 := by omega
  have t1000000 : U ≤ 999999 := by omega
  have t1000000000 : U ≤ 999999999 := by omega
  obtain ⟨q, hq⟩ : ∃ q, q = u / 10 ^ 0 := ⟨_, rfl⟩
  rw [← hq]
  have hqu : q ≤ u := by rw [hq]; exact Nat.div_le_self _ _
  have hql : (decs q).length ≤ 3 := decs_length 2 q (by rw [hq]; omega)
  have hfl := fracT_length u 0
  obtain ⟨Q, hQ⟩ : ∃ Q : Int, Q = (q : Int) := ⟨_, rfl⟩
  have HB := Lib.hid (And.intro hb (And.intro hq (And.intro hU (And.intro hQ (show u ≤ 18446744073709551615 by omega)))))
  have HL := Lib.hid (And.intro hqu (And.intro hql hfl))
  clear hb hq hU h0 h1 hqu hql hfl hQ
  go_enter Tryd.func47, Tryd.ntmps47
  go_wp2_with (first
    | (go_at_call 68; refine (fmtint_at b k1 32 (fracT u 0 ++ [110, 115]) q _ _ _ HB.out.2.2.2.1 rfl h1b (by have := HL.out.1; have := HB.out; omega) (by omega) (by omega) (by decide) (by have := HL.out; omega)).mono ?_; rintro e w2 ⟨k2, rfl, hk2, h2b, hg2⟩; have hk2' : 1 ≤ k2 := by (have := HL.out); omega
       have hk3' : k2 ≤ 32 := by omega
       obtain ⟨xx, yy⟩ := h2b.cell (k2 - 1) (by omega)
       have zz := h2b.frozen (k2 - 1)
       have HF := Lib.hid (And.intro h2b (And.intro hg2 hg1)); clear h2b hg2 hg1 h1b)
    | (go_at_call 67; refine (fmtfrac_at b 30 32 [110, 115] u 0 Q _ _ _ _ HB.out.2.2.1 (by decide) (by rw [HB.out.2.2.2.1, HB.out.2.1]) rfl (BufT.put' (BufT.put' HB.out.1 115 115 (by decide) 31 (by decide) (by decide)) 110 110 (by decide) 30 (by decide) (by decide)) HB.out.2.2.2.2 (by decide) (by decide) (by decide) (by decide)).mono ?_; rintro e w1 ⟨k1, rfl, hk1, h1b, hg1⟩; have hsl1 := slice32 b k1 k1 rfl (by omega)
       clear y31 y30 y29 z31 z30 z29))
  go_ret
  exact ⟨k2, rfl, by omega, HF.out.1, (grown_g (grown_g (only_at (only_at (only_of_below (Below.refl _ _) _) _ _) _ _) HF.out.2.2) HF.out.2.1)⟩

set_option maxRecDepth 100000 in
set_option maxHeartbeats 1000000 in
theorem format_ns_neg (b u : Nat) (U : Int) (hU : U = (u : Int)) (w : World) (hb : BufT w b 32 []) (h0 : 1 ≤ u) (h1 : u ≤ 999) :
    Calls Tryd.prog 47 #[.int .i64 (-U), .pointer (some ⟨b, 0, none⟩)] w (FmtRet b (45 :: (decs (u / 10 ^ 0) ++ (fracT u 0 ++ [110, 115]))) w) := by
  obtain ⟨x31, y31⟩ := hb.cell 31 (by decide)
  have z31 := hb.frozen 31
  obtain ⟨x30, y30⟩ := hb.cell 30 (by decide)
  have z30 := hb.frozen 30
  obtain ⟨x29, y29⟩ := hb.cell 29 (by decide)
  have z29 := hb.frozen 29
  have hw : IntKind.u64.wrap (-IntKind.u64.wrap (-U)) = U := by rw [IntKind.wrap_u64, IntKind.wrap_u64]; omega
  have e0 : (U == 0) = false := by simp; omega
  have u0 : 1 ≤ U := by omega
  have u1 : U ≤ 9223372036854775808 := by omega
  have t1000 : U ≤ 999 := by omega
  have t1000000 : U ≤ 999999 := by omega
  have t1000000000 : U ≤ 999999999 := by omega
  obtain ⟨q, hq⟩ : ∃ q, q = u / 10 ^ 0 := ⟨_, rfl⟩
  rw [← hq]
  have hqu : q ≤ u := by rw [hq]; exact Nat.div_le_self _ _
  have hql : (decs q).length ≤ 3 := decs_length 2 q (by rw [hq]; omega)
  have hfl := fracT_length u 0
  obtain ⟨Q, hQ⟩ : ∃ Q : Int, Q = (q : Int) := ⟨_, rfl⟩
  have HB := Lib.hid (And.intro hb (And.intro hq (And.intro hU (And.intro hQ (show u ≤ 18446744073709551615 by omega)))))
  have HL := Lib.hid (And.intro hqu (And.intro hql hfl))
  clear hb hq hU h0 h1 hqu hql hfl hQ
  go_enter Tryd.func47, Tryd.ntmps47
  go_wp2_with (first
    | (go_at_call 68; refine (fmtint_at b k1 32 (fracT u 0 ++ [110, 115]) q _ _ _ HB.out.2.2.2.1 rfl h1b (by have := HL.out.1; have := HB.out; omega) (by omega) (by omega) (by decide) (by have := HL.out; omega)).mono ?_; rintro e w2 ⟨k2, rfl, hk2, h2b, hg2⟩; have hk2' : 1 ≤ k2 := by (have := HL.out); omega
       have hk3' : k2 ≤ 32 := by omega
       obtain ⟨xx, yy⟩ := h2b.cell (k2 - 1) (by omega)
       have zz := h2b.frozen (k2 - 1)
       have HF := Lib.hid (And.intro h2b (And.intro hg2 hg1)); clear h2b hg2 hg1 h1b)
    | (go_at_call 67; refine (fmtfrac_at b 30 32 [110, 115] u 0 Q _ _ _ _ HB.out.2.2.1 (by decide) (by rw [HB.out.2.2.2.1, HB.out.2.1]) rfl (BufT.put' (BufT.put' HB.out.1 115 115 (by decide) 31 (by decide) (by decide)) 110 110 (by decide) 30 (by decide) (by decide)) HB.out.2.2.2.2 (by decide) (by decide) (by decide) (by decide)).mono ?_; rintro e w1 ⟨k1, rfl, hk1, h1b, hg1⟩; have hsl1 := slice32 b k1 k1 rfl (by omega)
       clear y31 y30 y29 z31 z30 z29))
  go_ret
  exact ⟨k2 - 1, by rw [show ((k2 - 1 : Nat) : Int) = (k2 : Int) - 1 by omega]; rfl, by omega, BufT.put' HF.out.1 45 45 (by decide) (k2 - 1) (by omega) (by omega), only_at (grown_g (grown_g (only_at (only_at (only_of_below (Below.refl _ _) _) _ _) _ _) HF.out.2.2) HF.out.2.1) _ _⟩

set_option maxRecDepth 100000 in
set_option maxHeartbeats 1000000 in
theorem format_us_pos (b u : Nat) (U : Int) (hU : U = (u : Int)) (w : World) (hb : BufT w b 32 []) (h0 : 1000 ≤ u) (h1 : u ≤ 999999) :
    Calls Tryd.prog 47 #[.int .i64 (U), .pointer (some ⟨b, 0, none⟩)] w (FmtRet b (decs (u / 10 ^ 3) ++ (fracT u 3 ++ [194, 181, 115])) w) := by
  obtain ⟨x31, y31⟩ := hb.cell 31 (by decide)
  have z31 := hb.frozen 31
  obtain ⟨x30, y30⟩ := hb.cell 30 (by decide)
  have z30 := hb.frozen 30
  obtain ⟨x29, y29⟩ := hb.cell 29 (by decide)
  have z29 := hb.frozen 29
  have e0 : (U == 0) = false := by simp; omega
  have u0 : 1 ≤ U := by omega
  have u1 : U ≤ 9223372036854775808 := by omega
  have t1000 : 1000 ≤ U := by omega
  have t1000000 : U ≤ 999999 := by omega
  have t1000000000 : U ≤ 999999999 := by omega
  have hcp := copy_mu (w.setCell ⟨b, 31, none⟩ (.int .u8 115)) b 3 (BufT.put' hb 115 115 (by decide) 31 (by decide) (by decide)).some (BufT.put' hb 115 115 (by decide) 31 (by decide) (by decide)).frozen
  obtain ⟨q, hq⟩ : ∃ q, q = u / 10 ^ 3 := ⟨_, rfl⟩
  rw [← hq]
  have hqu : q ≤ u := by rw [hq]; exact Nat.div_le_self _ _
  have hql : (decs q).length ≤ 3 := decs_length 2 q (by rw [hq]; omega)
  have hfl := fracT_length u 3
  obtain ⟨Q, hQ⟩ : ∃ Q : Int, Q = (q : Int) := ⟨_, rfl⟩
  have HB := Lib.hid (And.intro hb (And.intro hq (And.intro hU (And.intro hQ (show u ≤ 18446744073709551615 by omega)))))
  have HL := Lib.hid (And.intro hqu (And.intro hql hfl))
  clear hb hq hU h0 h1 hqu hql hfl hQ
  go_enter Tryd.func47, Tryd.ntmps47
  go_wp2_with (first
    | (go_at_call 68; refine (fmtint_at b k1 32 (fracT u 3 ++ [194, 181, 115]) q _ _ _ HB.out.2.2.2.1 rfl h1b (by have := HL.out.1; have := HB.out; omega) (by omega) (by omega) (by decide) (by have := HL.out; omega)).mono ?_; rintro e w2 ⟨k2, rfl, hk2, h2b, hg2⟩; have hk2' : 1 ≤ k2 := by (have := HL.out); omega
       have hk3' : k2 ≤ 32 := by omega
       obtain ⟨xx, yy⟩ := h2b.cell (k2 - 1) (by omega)
       have zz := h2b.frozen (k2 - 1)
       have HF := Lib.hid (And.intro h2b (And.intro hg2 hg1)); clear h2b hg2 hg1 h1b)
    | (go_at_call 67; refine (fmtfrac_at b 29 32 [194, 181, 115] u 3 Q _ _ _ _ HB.out.2.2.1 (by decide) (by rw [HB.out.2.2.2.1, HB.out.2.1]) rfl (BufT.put2 (BufT.put' HB.out.1 115 115 (by decide) 31 (by decide) (by decide))) HB.out.2.2.2.2 (by decide) (by decide) (by decide) (by decide)).mono ?_; rintro e w1 ⟨k1, rfl, hk1, h1b, hg1⟩; have hsl1 := slice32 b k1 k1 rfl (by omega)
       clear y31 y30 y29 z31 z30 z29))
  go_ret
  exact ⟨k2, rfl, by omega, HF.out.1, (grown_g (grown_g (only_at (only_at (only_at (only_of_below (Below.refl _ _) _) _ _) _ _) _ _) HF.out.2.2) HF.out.2.1)⟩

set_option maxRecDepth 100000 in
set_option maxHeartbeats 1000000 in
theorem format_us_neg (b u : Nat) (U : Int) (hU : U = (u : Int)) (w : World) (hb : BufT w b 32 []) (h0 : 1000 ≤ u) (h1 : u ≤ 999999) :
    Calls Tryd.prog 47 #[.int .i64 (-U), .pointer (some ⟨b, 0, none⟩)] w (FmtRet b (45 :: (decs (u / 10 ^ 3) ++ (fracT u 3 ++ [194, 181, 115]))) w) := by
  obtain ⟨x31, y31⟩ := hb.cell 31 (by decide)
  have z31 := hb.frozen 31
  obtain ⟨x30, y30⟩ := hb.cell 30 (by decide)
  have z30 := hb.frozen 30
  obtain ⟨x29, y29⟩ := hb.cell 29 (by decide)
  have z29 := hb.frozen 29
  have hw : IntKind.u64.wrap (-IntKind.u64.wrap (-U)) = U := by rw [IntKind.wrap_u64, IntKind.wrap_u64]; omega
  have e0 : (U == 0) = false := by simp; omega
  have u0 : 1 ≤ U := by omega
  have u1 : U ≤ 9223372036854775808 := by omega
  have t1000 : 1000 ≤ U := by omega
  have t1000000 : U ≤ 999999 := by omega
  have t1000000000 : U ≤ 999999999 := by omega
  have hcp := copy_mu (w.setCell ⟨b, 31, none⟩ (.int .u8 115)) b 3 (BufT.put' hb 115 115 (by decide) 31 (by decide) (by decide)).some (BufT.put' hb 115 115 (by decide) 31 (by decide) (by decide)).frozen
  obtain ⟨q, hq⟩ : ∃ q, q = u / 10 ^ 3 := ⟨_, rfl⟩
  rw [← hq]
  have hqu : q ≤ u := by rw [hq]; exact Nat.div_le_self _ _
  have hql : (decs q).length ≤ 3 := decs_length 2 q (by rw [hq]; omega)
  have hfl := fracT_length u 3
  obtain ⟨Q, hQ⟩ : ∃ Q : Int, Q = (q : Int) := ⟨_, rfl⟩
  have HB := Lib.hid (And.intro hb (And.intro hq (And.intro hU (And.intro hQ (show u ≤ 18446744073709551615 by omega)))))
  have HL := Lib.hid (And.intro hqu (And.intro hql hfl))
  clear hb hq hU h0 h1 hqu hql hfl hQ
  go_enter Tryd.func47, Tryd.ntmps47
  go_wp2_with (first
    | (go_at_call 68; refine (fmtint_at b k1 32 (fracT u 3 ++ [194, 181, 115]) q _ _ _ HB.out.2.2.2.1 rfl h1b (by have := HL.out.1; have := HB.out; omega) (by omega) (by omega) (by decide) (by have := HL.out; omega)).mono ?_; rintro e w2 ⟨k2, rfl, hk2, h2b, hg2⟩; have hk2' : 1 ≤ k2 := by (have := HL.out); omega
       have hk3' : k2 ≤ 32 := by omega
       obtain ⟨xx, yy⟩ := h2b.cell (k2 - 1) (by omega)
       have zz := h2b.frozen (k2 - 1)
       have HF := Lib.hid (And.intro h2b (And.intro hg2 hg1)); clear h2b hg2 hg1 h1b)
    | (go_at_call 67; refine (fmtfrac_at b 29 32 [194, 181, 115] u 3 Q _ _ _ _ HB.out.2.2.1 (by decide) (by rw [HB.out.2.2.2.1, HB.out.2.1]) rfl (BufT.put2 (BufT.put' HB.out.1 115 115 (by decide) 31 (by decide) (by decide))) HB.out.2.2.2.2 (by decide) (by decide) (by decide) (by decide)).mono ?_; rintro e w1 ⟨k1, rfl, hk1, h1b, hg1⟩; have hsl1 := slice32 b k1 k1 rfl (by omega)
       clear y31 y30 y29 z31 z30 z29))
  go_ret
  exact ⟨k2 - 1, by rw [show ((k2 - 1 : Nat) : Int) = (k2 : Int) - 1 by omega]; rfl, by omega, BufT.put' HF.out.1 45 45 (by decide) (k2 - 1) (by omega) (by omega), only_at (grown_g (grown_g (only_at (only_at (only_at (only_of_below (Below.refl _ _) _) _ _) _ _) _ _) HF.out.2.2) HF.out.2.1) _ _⟩

set_option maxRecDepth 100000 in
set_option maxHeartbeats 1000000 in
theorem format_ms_pos (b u : Nat) (U : Int) (hU : U = (u : Int)) (w : World) (hb : BufT w b 32 []) (h0 : 1000000 ≤ u) (h1 : u ≤ 999999999) :
    Calls Tryd.prog 47 #[.int .i64 (U), .pointer (some ⟨b, 0, none⟩)] w (FmtRet b (decs (u / 10 ^ 6) ++ (fracT u 6 ++ [109, 115])) w) := by
  obtain ⟨x31, y31⟩ := hb.cell 31 (by decide)
  have z31 := hb.frozen 31
  obtain ⟨x30, y30⟩ := hb.cell 30 (by decide)
  have z30 := hb.frozen 30
  obtain ⟨x29, y29⟩ := hb.cell 29 (by decide)
  have z29 := hb.frozen 29
  have e0 : (U == 0) = false := by simp; omega
  have u0 : 1 ≤ U := by omega
  have u1 : U ≤ 9223372036854775808 := by omega
  have t1000 : 1000 ≤ U := by omega
  have t1000000 : 1000000 ≤ U := by omega
  have t1000000000 : U ≤ 999999999 := by omega
  obtain ⟨q, hq⟩ : ∃ q, q = u / 10 ^ 6 := ⟨_, rfl⟩
  rw [← hq]
  have hqu : q ≤ u := by rw [hq]; exact Nat.div_le_self _ _
  have hql : (decs q).length ≤ 3 := decs_length 2 q (by rw [hq]; omega)
  have hfl := fracT_length u 6
  obtain ⟨Q, hQ⟩ : ∃ Q : Int, Q = (q : Int) := ⟨_, rfl⟩
  have HB := Lib.hid (And.intro hb (And.intro hq (And.intro hU (And.intro hQ (show u ≤ 18446744073709551615 by omega)))))
  have HL := Lib.hid (And.intro hqu (And.intro hql hfl))
  clear hb hq hU h0 h1 hqu hql hfl hQ
  go_enter Tryd.func47, Tryd.ntmps47
  go_wp2_with (first
    | (go_at_call 68; refine (fmtint_at b k1 32 (fracT u 6 ++ [109, 115]) q _ _ _ HB.out.2.2.2.1 rfl h1b (by have := HL.out.1; have := HB.out; omega) (by omega) (by omega) (by decide) (by have := HL.out; omega)).mono ?_; rintro e w2 ⟨k2, rfl, hk2, h2b, hg2⟩; have hk2' : 1 ≤ k2 := by (have := HL.out); omega
       have hk3' : k2 ≤ 32 := by omega
       obtain ⟨xx, yy⟩ := h2b.cell (k2 - 1) (by omega)
       have zz := h2b.frozen (k2 - 1)
       have HF := Lib.hid (And.intro h2b (And.intro hg2 hg1)); clear h2b hg2 hg1 h1b)
    | (go_at_call 67; refine (fmtfrac_at b 30 32 [109, 115] u 6 Q _ _ _ _ HB.out.2.2.1 (by decide) (by rw [HB.out.2.2.2.1, HB.out.2.1]) rfl (BufT.put' (BufT.put' HB.out.1 115 115 (by decide) 31 (by decide) (by decide)) 109 109 (by decide) 30 (by decide) (by decide)) HB.out.2.2.2.2 (by decide) (by decide) (by decide) (by decide)).mono ?_; rintro e w1 ⟨k1, rfl, hk1, h1b, hg1⟩; have hsl1 := slice32 b k1 k1 rfl (by omega)
       clear y31 y30 y29 z31 z30 z29))
  go_ret
  exact ⟨k2, rfl, by omega, HF.out.1, (grown_g (grown_g (only_at (only_at (only_of_below (Below.refl _ _) _) _ _) _ _) HF.out.2.2) HF.out.2.1)⟩

set_option maxRecDepth 100000 in
set_option maxHeartbeats 1000000 in
theorem format_ms_neg (b u : Nat) (U : Int) (hU : U = (u : Int)) (w : World) (hb : BufT w b 32 []) (h0 : 1000000 ≤ u) (h1 : u ≤ 999999999) :
    Calls Tryd.prog 47 #[.int .i64 (-U), .pointer (some ⟨b, 0, none⟩)] w (FmtRet b (45 :: (decs (u / 10 ^ 6) ++ (fracT u 6 ++ [109, 115]))) w) := by
  obtain ⟨x31, y31⟩ := hb.cell 31 (by decide)
  have z31 := hb.frozen 31
  obtain ⟨x30, y30⟩ := hb.cell 30 (by decide)
  have z30 := hb.frozen 30
  obtain ⟨x29, y29⟩ := hb.cell 29 (by decide)
  have z29 := hb.frozen 29
  have hw : IntKind.u64.wrap (-IntKind.u64.wrap (-U)) = U := by rw [IntKind.wrap_u64, IntKind.wrap_u64]; omega
  have e0 : (U == 0) = false := by simp; omega
  have u0 : 1 ≤ U := by omega
  have u1 : U ≤ 9223372036854775808 := by omega
  have t1000 : 1000 ≤ U := by omega
  have t1000000 : 1000000 ≤ U := by omega
  have t1000000000 : U ≤ 999999999 := by omega
  obtain ⟨q, hq⟩ : ∃ q, q = u / 10 ^ 6 := ⟨_, rfl⟩
  rw [← hq]
  have hqu : q ≤ u := by rw [hq]; exact Nat.div_le_self _ _
  have hql : (decs q).length ≤ 3 := decs_length 2 q (by rw [hq]; omega)
  have hfl := fracT_length u 6
  obtain ⟨Q, hQ⟩ : ∃ Q : Int, Q = (q : Int) := ⟨_, rfl⟩
  have HB := Lib.hid (And.intro hb (And.intro hq (And.intro hU (And.intro hQ (show u ≤ 18446744073709551615 by omega)))))
  have HL := Lib.hid (And.intro hqu (And.intro hql hfl))
  clear hb hq hU h0 h1 hqu hql hfl hQ
  go_enter Tryd.func47, Tryd.ntmps47
  go_wp2_with (first
    | (go_at_call 68; refine (fmtint_at b k1 32 (fracT u 6 ++ [109, 115]) q _ _ _ HB.out.2.2.2.1 rfl h1b (by have := HL.out.1; have := HB.out; omega) (by omega) (by omega) (by decide) (by have := HL.out; omega)).mono ?_; rintro e w2 ⟨k2, rfl, hk2, h2b, hg2⟩; have hk2' : 1 ≤ k2 := by (have := HL.out); omega
       have hk3' : k2 ≤ 32 := by omega
       obtain ⟨xx, yy⟩ := h2b.cell (k2 - 1) (by omega)
       have zz := h2b.frozen (k2 - 1)
       have HF := Lib.hid (And.intro h2b (And.intro hg2 hg1)); clear h2b hg2 hg1 h1b)
    | (go_at_call 67; refine (fmtfrac_at b 30 32 [109, 115] u 6 Q _ _ _ _ HB.out.2.2.1 (by decide) (by rw [HB.out.2.2.2.1, HB.out.2.1]) rfl (BufT.put' (BufT.put' HB.out.1 115 115 (by decide) 31 (by decide) (by decide)) 109 109 (by decide) 30 (by decide) (by decide)) HB.out.2.2.2.2 (by decide) (by decide) (by decide) (by decide)).mono ?_; rintro e w1 ⟨k1, rfl, hk1, h1b, hg1⟩; have hsl1 := slice32 b k1 k1 rfl (by omega)
       clear y31 y30 y29 z31 z30 z29))
  go_ret
  exact ⟨k2 - 1, by rw [show ((k2 - 1 : Nat) : Int) = (k2 : Int) - 1 by omega]; rfl, by omega, BufT.put' HF.out.1 45 45 (by decide) (k2 - 1) (by omega) (by omega), only_at (grown_g (grown_g (only_at (only_at (only_of_below (Below.refl _ _) _) _ _) _ _) HF.out.2.2) HF.out.2.1) _ _⟩

set_option maxRecDepth 100000 in
set_option maxHeartbeats 1000000 in
theorem format_s_pos (b u : Nat) (U : Int) (hU : U = (u : Int)) (w : World) (hb : BufT w b 32 []) (h0 : 1000000000 ≤ u) (h1 : u ≤ 59999999999) :
    Calls Tryd.prog 47 #[.int .i64 (U), .pointer (some ⟨b, 0, none⟩)] w (FmtRet b (decs ((u / 10 ^ 9) % 60) ++ (fracT u 9 ++ [115])) w) := by
  obtain ⟨x31, y31⟩ := hb.cell 31 (by decide)
  have z31 := hb.frozen 31
  have e0 : (U == 0) = false := by simp; omega
  have u0 : 1 ≤ U := by omega
  have u1 : U ≤ 9223372036854775808 := by omega
  have t9 : 1000000000 ≤ U := by omega
  obtain ⟨q, hq⟩ : ∃ q, q = u / 10 ^ 9 := ⟨_, rfl⟩
  rw [← hq]
  have hqb : 1 ≤ q ∧ q ≤ 9223372036 := by rw [hq]; omega
  obtain ⟨Q, hQ⟩ : ∃ Q : Int, Q = (q : Int) := ⟨_, rfl⟩
  have q1 : 1 ≤ Q := by omega
  have q2 : Q ≤ 9223372036 := by omega
  have hqr : q ≤ 59 := by rw [hq]; omega
  have eM : Q / 60 = 0 := by omega
  have HL := Lib.hid (And.intro (fracT_length u 9) (And.intro (decs_length 1 (q % 60) (by omega)) (And.intro (decs_length 1 (q / 60 % 60) (by omega)) (decs_length 6 (q / 60 / 60) (by omega)))))
  have HB := Lib.hid (And.intro hb (And.intro hq (And.intro hU (And.intro hQ (show u ≤ 18446744073709551615 by omega)))))
  have HQ := Lib.hid hqb
  clear hb hq hU h0 h1 hQ hqb
  go_enter Tryd.func47, Tryd.ntmps47
  go_wp2_with (first
    | (go_at_call 68; refine (fmtint_at b k1 32 (fracT u 9 ++ [115]) (q % 60) _ _ _ (by have := HB.out.2.2.2.1; have := HQ.out; omega) rfl H1.out.1 (by omega) (by omega) (by omega) (by decide) (by have := HL.out; omega)).mono ?_; rintro e w2 ⟨k2, rfl, hk2, h2b, hg2⟩
       have k2a : 1 ≤ k2 := by (have := HL.out); omega
       have k2b : k2 ≤ 32 := by omega
       obtain ⟨xxk2, yyk2⟩ := h2b.cell (k2 - 1) (by omega)
       have zzk2 := h2b.frozen (k2 - 1)
       have hsl2 := slice32 b ((k2 : Int) - 1) (k2 - 1) (by omega) (by omega)
       have H2 := Lib.hid (And.intro h2b hg2); clear h2b hg2)
    | (go_at_call 67; refine (fmtfrac_at b 31 32 [115] u 9 Q _ _ _ _ HB.out.2.2.1 (by decide) (by rw [HB.out.2.2.2.1, HB.out.2.1]) rfl (BufT.put' HB.out.1 115 115 (by decide) 31 (by decide) (by decide)) HB.out.2.2.2.2 (by decide) (by decide) (by decide) (by decide)).mono ?_; rintro e w1 ⟨k1, rfl, hk1, h1b, hg1⟩; have hsl1 := slice32 b k1 k1 rfl (by omega)
       have H1 := Lib.hid (And.intro h1b hg1); clear h1b hg1 y31 z31))
  go_ret
  exact ⟨k2, rfl, by omega, H2.out.1, (grown_g (grown_g (only_at (only_of_below (Below.refl _ _) _) _ _) H1.out.2) H2.out.2)⟩

set_option maxRecDepth 100000 in
set_option maxHeartbeats 1000000 in
theorem format_s_neg (b u : Nat) (U : Int) (hU : U = (u : Int)) (w : World) (hb : BufT w b 32 []) (h0 : 1000000000 ≤ u) (h1 : u ≤ 59999999999) :
    Calls Tryd.prog 47 #[.int .i64 (-U), .pointer (some ⟨b, 0, none⟩)] w (FmtRet b (45 :: (decs ((u / 10 ^ 9) % 60) ++ (fracT u 9 ++ [115]))) w) := by
  obtain ⟨x31, y31⟩ := hb.cell 31 (by decide)
  have z31 := hb.frozen 31
  have hw : IntKind.u64.wrap (-IntKind.u64.wrap (-U)) = U := by rw [IntKind.wrap_u64, IntKind.wrap_u64]; omega
  have e0 : (U == 0) = false := by simp; omega
  have u0 : 1 ≤ U := by omega
  have u1 : U ≤ 9223372036854775808 := by omega
  have t9 : 1000000000 ≤ U := by omega
  obtain ⟨q, hq⟩ : ∃ q, q = u / 10 ^ 9 := ⟨_, rfl⟩
  rw [← hq]
  have hqb : 1 ≤ q ∧ q ≤ 9223372036 := by rw [hq]; omega
  obtain ⟨Q, hQ⟩ : ∃ Q : Int, Q = (q : Int) := ⟨_, rfl⟩
  have q1 : 1 ≤ Q := by omega
  have q2 : Q ≤ 9223372036 := by omega
  have hqr : q ≤ 59 := by rw [hq]; omega
  have eM : Q / 60 = 0 := by omega
  have HL := Lib.hid (And.intro (fracT_length u 9) (And.intro (decs_length 1 (q % 60) (by omega)) (And.intro (decs_length 1 (q / 60 % 60) (by omega)) (decs_length 6 (q / 60 / 60) (by omega)))))
  have HB := Lib.hid (And.intro hb (And.intro hq (And.intro hU (And.intro hQ (show u ≤ 18446744073709551615 by omega)))))
  have HQ := Lib.hid hqb
  clear hb hq hU h0 h1 hQ hqb
  go_enter Tryd.func47, Tryd.ntmps47
  go_wp2_with (first
    | (go_at_call 68; refine (fmtint_at b k1 32 (fracT u 9 ++ [115]) (q % 60) _ _ _ (by have := HB.out.2.2.2.1; have := HQ.out; omega) rfl H1.out.1 (by omega) (by omega) (by omega) (by decide) (by have := HL.out; omega)).mono ?_; rintro e w2 ⟨k2, rfl, hk2, h2b, hg2⟩
       have k2a : 1 ≤ k2 := by (have := HL.out); omega
       have k2b : k2 ≤ 32 := by omega
       obtain ⟨xxk2, yyk2⟩ := h2b.cell (k2 - 1) (by omega)
       have zzk2 := h2b.frozen (k2 - 1)
       have hsl2 := slice32 b ((k2 : Int) - 1) (k2 - 1) (by omega) (by omega)
       have H2 := Lib.hid (And.intro h2b hg2); clear h2b hg2)
    | (go_at_call 67; refine (fmtfrac_at b 31 32 [115] u 9 Q _ _ _ _ HB.out.2.2.1 (by decide) (by rw [HB.out.2.2.2.1, HB.out.2.1]) rfl (BufT.put' HB.out.1 115 115 (by decide) 31 (by decide) (by decide)) HB.out.2.2.2.2 (by decide) (by decide) (by decide) (by decide)).mono ?_; rintro e w1 ⟨k1, rfl, hk1, h1b, hg1⟩; have hsl1 := slice32 b k1 k1 rfl (by omega)
       have H1 := Lib.hid (And.intro h1b hg1); clear h1b hg1 y31 z31))
  go_ret
  exact ⟨k2 - 1, by rw [show ((k2 - 1 : Nat) : Int) = (k2 : Int) - 1 by omega]; rfl, by omega, BufT.put' H2.out.1 45 45 (by decide) (k2 - 1) (by omega) (by omega), only_at (grown_g (grown_g (only_at (only_of_below (Below.refl _ _) _) _ _) H1.out.2) H2.out.2) _ _⟩

set_option maxRecDepth 100000 in
set_option maxHeartbeats 1000000 in
theorem format_m_pos (b u : Nat) (U : Int) (hU : U = (u : Int)) (w : World) (hb : BufT w b 32 []) (h0 : 60000000000 ≤ u) (h1 : u ≤ 3599999999999) :
    Calls Tryd.prog 47 #[.int .i64 (U), .pointer (some ⟨b, 0, none⟩)] w (FmtRet b (decs ((u / 10 ^ 9) / 60 % 60) ++ (109 :: (decs ((u / 10 ^ 9) % 60) ++ (fracT u 9 ++ [115])))) w) := by
  obtain ⟨x31, y31⟩ := hb.cell 31 (by decide)
  have z31 := hb.frozen 31
  have e0 : (U == 0) = false := by simp; omega
  have u0 : 1 ≤ U := by omega
  have u1 : U ≤ 9223372036854775808 := by omega
  have t9 : 1000000000 ≤ U := by omega
  obtain ⟨q, hq⟩ : ∃ q, q = u / 10 ^ 9 := ⟨_, rfl⟩
  rw [← hq]
  have hqb : 1 ≤ q ∧ q ≤ 9223372036 := by rw [hq]; omega
  obtain ⟨Q, hQ⟩ : ∃ Q : Int, Q = (q : Int) := ⟨_, rfl⟩
  have q1 : 1 ≤ Q := by omega
  have q2 : Q ≤ 9223372036 := by omega
  obtain ⟨M, eM⟩ : ∃ M : Int, Q / 60 = M := ⟨_, rfl⟩
  have m1 : 1 ≤ M := by rw [← eM, hQ, hq]; omega
  have m2 : M ≤ 59 := by rw [← eM, hQ, hq]; omega
  have eH : M / 60 = 0 := by omega
  have HL := Lib.hid (And.intro (fracT_length u 9) (And.intro (decs_length 1 (q % 60) (by omega)) (And.intro (decs_length 1 (q / 60 % 60) (by omega)) (decs_length 6 (q / 60 / 60) (by omega)))))
  have HB := Lib.hid (And.intro hb (And.intro hq (And.intro hU (And.intro hQ (show u ≤ 18446744073709551615 by omega)))))
  have HQ := Lib.hid hqb
  clear hb hq hU h0 h1 hQ hqb
  go_enter Tryd.func47, Tryd.ntmps47
  go_wp2_with (first
    | (go_at_call 68; refine (fmtint_at b (k2 - 1) 32 (109 :: (decs (q % 60) ++ (fracT u 9 ++ [115]))) (q / 60 % 60) _ _ _ (by have := HB.out.2.2.2.1; omega) rfl (BufT.put' H2.out.1 109 109 (by decide) (k2 - 1) (by omega) (by omega)) (by omega) (by omega) (by omega) (by decide) (by have := HL.out; omega)).mono ?_; rintro e w3 ⟨k3, rfl, hk3, h3b, hg3⟩
       have k3a : 1 ≤ k3 := by (have := HL.out); omega
       have k3b : k3 ≤ 32 := by omega
       obtain ⟨xxk3, yyk3⟩ := h3b.cell (k3 - 1) (by omega)
       have zzk3 := h3b.frozen (k3 - 1)
       have hsl3 := slice32 b ((k3 : Int) - 1) (k3 - 1) (by omega) (by omega)
       have H3 := Lib.hid (And.intro h3b hg3); clear h3b hg3 xxk2 yyk2 zzk2)
    | (go_at_call 68; refine (fmtint_at b k1 32 (fracT u 9 ++ [115]) (q % 60) _ _ _ (by have := HB.out.2.2.2.1; have := HQ.out; omega) rfl H1.out.1 (by omega) (by omega) (by omega) (by decide) (by have := HL.out; omega)).mono ?_; rintro e w2 ⟨k2, rfl, hk2, h2b, hg2⟩
       have k2a : 1 ≤ k2 := by (have := HL.out); omega
       have k2b : k2 ≤ 32 := by omega
       obtain ⟨xxk2, yyk2⟩ := h2b.cell (k2 - 1) (by omega)
       have zzk2 := h2b.frozen (k2 - 1)
       have hsl2 := slice32 b ((k2 : Int) - 1) (k2 - 1) (by omega) (by omega)
       have H2 := Lib.hid (And.intro h2b hg2); clear h2b hg2)
    | (go_at_call 67; refine (fmtfrac_at b 31 32 [115] u 9 Q _ _ _ _ HB.out.2.2.1 (by decide) (by rw [HB.out.2.2.2.1, HB.out.2.1]) rfl (BufT.put' HB.out.1 115 115 (by decide) 31 (by decide) (by decide)) HB.out.2.2.2.2 (by decide) (by decide) (by decide) (by decide)).mono ?_; rintro e w1 ⟨k1, rfl, hk1, h1b, hg1⟩; have hsl1 := slice32 b k1 k1 rfl (by omega)
       have H1 := Lib.hid (And.intro h1b hg1); clear h1b hg1 y31 z31))
  go_ret
  exact ⟨k3, rfl, by omega, H3.out.1, (grown_g (only_at (grown_g (grown_g (only_at (only_of_below (Below.refl _ _) _) _ _) H1.out.2) H2.out.2) _ _) H3.out.2)⟩

set_option maxRecDepth 100000 in
set_option maxHeartbeats 1000000 in
theorem format_m_neg (b u : Nat) (U : Int) (hU : U = (u : Int)) (w : World) (hb : BufT w b 32 []) (h0 : 60000000000 ≤ u) (h1 : u ≤ 3599999999999) :
    Calls Tryd.prog 47 #[.int .i64 (-U), .pointer (some ⟨b, 0, none⟩)] w (FmtRet b (45 :: (decs ((u / 10 ^ 9) / 60 % 60) ++ (109 :: (decs ((u / 10 ^ 9) % 60) ++ (fracT u 9 ++ [115]))))) w) := by
  obtain ⟨x31, y31⟩ := hb.cell 31 (by decide)
  have z31 := hb.frozen 31
  have hw : IntKind.u64.wrap (-IntKind.u64.wrap (-U)) = U := by rw [IntKind.wrap_u64, IntKind.wrap_u64]; omega
  have e0 : (U == 0) = false := by simp; omega
  have u0 : 1 ≤ U := by omega
  have u1 : U ≤ 9223372036854775808 := by omega
  have t9 : 1000000000 ≤ U := by omega
  obtain ⟨q, hq⟩ : ∃ q, q = u / 10 ^ 9 := ⟨_, rfl⟩
  rw [← hq]
  have hqb : 1 ≤ q ∧ q ≤ 9223372036 := by rw [hq]; omega
  obtain ⟨Q, hQ⟩ : ∃ Q : Int, Q = (q : Int) := ⟨_, rfl⟩
  have q1 : 1 ≤ Q := by omega
  have q2 : Q ≤ 9223372036 := by omega
  obtain ⟨M, eM⟩ : ∃ M : Int, Q / 60 = M := ⟨_, rfl⟩
  have m1 : 1 ≤ M := by rw [← eM, hQ, hq]; omega
  have m2 : M ≤ 59 := by rw [← eM, hQ, hq]; omega
  have eH : M / 60 = 0 := by omega
  have HL := Lib.hid (And.intro (fracT_length u 9) (And.intro (decs_length 1 (q % 60) (by omega)) (And.intro (decs_length 1 (q / 60 % 60) (by omega)) (decs_length 6 (q / 60 / 60) (by omega)))))
  have HB := Lib.hid (And.intro hb (And.intro hq (And.intro hU (And.intro hQ (show u ≤ 18446744073709551615 by omega)))))
  have HQ := Lib.hid hqb
  clear hb hq hU h0 h1 hQ hqb
  go_enter Tryd.func47, Tryd.ntmps47
  go_wp2_with (first
    | (go_at_call 68; refine (fmtint_at b (k2 - 1) 32 (109 :: (decs (q % 60) ++ (fracT u 9 ++ [115]))) (q / 60 % 60) _ _ _ (by have := HB.out.2.2.2.1; omega) rfl (BufT.put' H2.out.1 109 109 (by decide) (k2 - 1) (by omega) (by omega)) (by omega) (by omega) (by omega) (by decide) (by have := HL.out; omega)).mono ?_; rintro e w3 ⟨k3, rfl, hk3, h3b, hg3⟩
       have k3a : 1 ≤ k3 := by (have := HL.out); omega
       have k3b : k3 ≤ 32 := by omega
       obtain ⟨xxk3, yyk3⟩ := h3b.cell (k3 - 1) (by omega)
       have zzk3 := h3b.frozen (k3 - 1)
       have hsl3 := slice32 b ((k3 : Int) - 1) (k3 - 1) (by omega) (by omega)
       have H3 := Lib.hid (And.intro h3b hg3); clear h3b hg3 xxk2 yyk2 zzk2)
    | (go_at_call 68; refine (fmtint_at b k1 32 (fracT u 9 ++ [115]) (q % 60) _ _ _ (by have := HB.out.2.2.2.1; have := HQ.out; omega) rfl H1.out.1 (by omega) (by omega) (by omega) (by decide) (by have := HL.out; omega)).mono ?_; rintro e w2 ⟨k2, rfl, hk2, h2b, hg2⟩
       have k2a : 1 ≤ k2 := by (have := HL.out); omega
       have k2b : k2 ≤ 32 := by omega
       obtain ⟨xxk2, yyk2⟩ := h2b.cell (k2 - 1) (by omega)
       have zzk2 := h2b.frozen (k2 - 1)
       have hsl2 := slice32 b ((k2 : Int) - 1) (k2 - 1) (by omega) (by omega)
       have H2 := Lib.hid (And.intro h2b hg2); clear h2b hg2)
    | (go_at_call 67; refine (fmtfrac_at b 31 32 [115] u 9 Q _ _ _ _ HB.out.2.2.1 (by decide) (by rw [HB.out.2.2.2.1, HB.out.2.1]) rfl (BufT.put' HB.out.1 115 115 (by decide) 31 (by decide) (by decide)) HB.out.2.2.2.2 (by decide) (by decide) (by decide) (by decide)).mono ?_; rintro e w1 ⟨k1, rfl, hk1, h1b, hg1⟩; have hsl1 := slice32 b k1 k1 rfl (by omega)
       have H1 := Lib.hid (And.intro h1b hg1); clear h1b hg1 y31 z31))
  go_ret
  exact ⟨k3 - 1, by rw [show ((k3 - 1 : Nat) : Int) = (k3 : Int) - 1 by omega]; rfl, by omega, BufT.put' H3.out.1 45 45 (by decide) (k3 - 1) (by omega) (by omega), only_at (grown_g (only_at (grown_g (grown_g (only_at (only_of_below (Below.refl _ _) _) _ _) H1.out.2) H2.out.2) _ _) H3.out.2) _ _⟩

set_option maxRecDepth 100000 in
set_option maxHeartbeats 1000000 in
theorem format_h_pos (b u : Nat) (U : Int) (hU : U = (u : Int)) (w : World) (hb : BufT w b 32 []) (h0 : 3600000000000 ≤ u) (h1 : u ≤ 9223372036854775807) :
    Calls Tryd.prog 47 #[.int .i64 (U), .pointer (some ⟨b, 0, none⟩)] w (FmtRet b (decs ((u / 10 ^ 9) / 60 / 60) ++ (104 :: (decs ((u / 10 ^ 9) / 60 % 60) ++ (109 :: (decs ((u / 10 ^ 9) % 60) ++ (fracT u 9 ++ [115])))))) w) := by
  obtain ⟨x31, y31⟩ := hb.cell 31 (by decide)
  have z31 := hb.frozen 31
  have e0 : (U == 0) = false := by simp; omega
  have u0 : 1 ≤ U := by omega
  have u1 : U ≤ 9223372036854775808 := by omega
  have t9 : 1000000000 ≤ U := by omega
  obtain ⟨q, hq⟩ : ∃ q, q = u / 10 ^ 9 := ⟨_, rfl⟩
  rw [← hq]
  have hqb : 1 ≤ q ∧ q ≤ 9223372036 := by rw [hq]; omega
  obtain ⟨Q, hQ⟩ : ∃ Q : Int, Q = (q : Int) := ⟨_, rfl⟩
  have q1 : 1 ≤ Q := by omega
  have q2 : Q ≤ 9223372036 := by omega
  obtain ⟨M, eM⟩ : ∃ M : Int, Q / 60 = M := ⟨_, rfl⟩
  have m1 : 1 ≤ M := by rw [← eM, hQ, hq]; omega
  have m2 : M ≤ 153722867 := by omega
  obtain ⟨H, eH⟩ : ∃ H : Int, M / 60 = H := ⟨_, rfl⟩
  have n1 : 1 ≤ H := by rw [← eH, ← eM, hQ, hq]; omega
  have n2 : H ≤ 2562047 := by omega
  have HL := Lib.hid (And.intro (fracT_length u 9) (And.intro (decs_length 1 (q % 60) (by omega)) (And.intro (decs_length 1 (q / 60 % 60) (by omega)) (decs_length 6 (q / 60 / 60) (by omega)))))
  have HB := Lib.hid (And.intro hb (And.intro hq (And.intro hU (And.intro hQ (show u ≤ 18446744073709551615 by omega)))))
  have HQ := Lib.hid hqb
  clear hb hq hU h0 h1 hQ hqb
  go_enter Tryd.func47, Tryd.ntmps47
  go_wp2_with (first
    | (go_at_call 68; refine (fmtint_at b (k3 - 1) 32 (104 :: (decs (q / 60 % 60) ++ (109 :: (decs (q % 60) ++ (fracT u 9 ++ [115]))))) (q / 60 / 60) _ _ _ (by have := HB.out.2.2.2.1; omega) rfl (BufT.put' H3.out.1 104 104 (by decide) (k3 - 1) (by omega) (by omega)) (by have := HQ.out; omega) (by omega) (by omega) (by decide) (by have := HL.out; omega)).mono ?_; rintro e w4 ⟨k4, rfl, hk4, h4b, hg4⟩
       have k4a : 1 ≤ k4 := by (have := HL.out); omega
       have k4b : k4 ≤ 32 := by omega
       obtain ⟨xxk4, yyk4⟩ := h4b.cell (k4 - 1) (by omega)
       have zzk4 := h4b.frozen (k4 - 1)
       have H4 := Lib.hid (And.intro h4b hg4); clear h4b hg4 xxk3 yyk3 zzk3)
    | (go_at_call 68; refine (fmtint_at b (k2 - 1) 32 (109 :: (decs (q % 60) ++ (fracT u 9 ++ [115]))) (q / 60 % 60) _ _ _ (by have := HB.out.2.2.2.1; omega) rfl (BufT.put' H2.out.1 109 109 (by decide) (k2 - 1) (by omega) (by omega)) (by omega) (by omega) (by omega) (by decide) (by have := HL.out; omega)).mono ?_; rintro e w3 ⟨k3, rfl, hk3, h3b, hg3⟩
       have k3a : 1 ≤ k3 := by (have := HL.out); omega
       have k3b : k3 ≤ 32 := by omega
       obtain ⟨xxk3, yyk3⟩ := h3b.cell (k3 - 1) (by omega)
       have zzk3 := h3b.frozen (k3 - 1)
       have hsl3 := slice32 b ((k3 : Int) - 1) (k3 - 1) (by omega) (by omega)
       have H3 := Lib.hid (And.intro h3b hg3); clear h3b hg3 xxk2 yyk2 zzk2)
    | (go_at_call 68; refine (fmtint_at b k1 32 (fracT u 9 ++ [115]) (q % 60) _ _ _ (by have := HB.out.2.2.2.1; have := HQ.out; omega) rfl H1.out.1 (by omega) (by omega) (by omega) (by decide) (by have := HL.out; omega)).mono ?_; rintro e w2 ⟨k2, rfl, hk2, h2b, hg2⟩
       have k2a : 1 ≤ k2 := by (have := HL.out); omega
       have k2b : k2 ≤ 32 := by omega
       obtain ⟨xxk2, yyk2⟩ := h2b.cell (k2 - 1) (by omega)
       have zzk2 := h2b.frozen (k2 - 1)
       have hsl2 := slice32 b ((k2 : Int) - 1) (k2 - 1) (by omega) (by omega)
       have H2 := Lib.hid (And.intro h2b hg2); clear h2b hg2)
    | (go_at_call 67; refine (fmtfrac_at b 31 32 [115] u 9 Q _ _ _ _ HB.out.2.2.1 (by decide) (by rw [HB.out.2.2.2.1, HB.out.2.1]) rfl (BufT.put' HB.out.1 115 115 (by decide) 31 (by decide) (by decide)) HB.out.2.2.2.2 (by decide) (by decide) (by decide) (by decide)).mono ?_; rintro e w1 ⟨k1, rfl, hk1, h1b, hg1⟩; have hsl1 := slice32 b k1 k1 rfl (by omega)
       have H1 := Lib.hid (And.intro h1b hg1); clear h1b hg1 y31 z31))
  go_ret
  exact ⟨k4, rfl, by omega, H4.out.1, (grown_g (only_at (grown_g (only_at (grown_g (grown_g (only_at (only_of_below (Below.refl _ _) _) _ _) H1.out.2) H2.out.2) _ _) H3.out.2) _ _) H4.out.2)⟩

set_option maxRecDepth 100000 in
set_option maxHeartbeats 1000000 in
theorem format_h_neg (b u : Nat) (U : Int) (hU : U = (u : Int)) (w : World) (hb : BufT w b 32 []) (h0 : 3600000000000 ≤ u) (h1 : u ≤ 9223372036854775808) :
    Calls Tryd.prog 47 #[.int .i64 (-U), .pointer (some ⟨b, 0, none⟩)] w (FmtRet b (45 :: (decs ((u / 10 ^ 9) / 60 / 60) ++ (104 :: (decs ((u / 10 ^ 9) / 60 % 60) ++ (109 :: (decs ((u / 10 ^ 9) % 60) ++ (fracT u 9 ++ [115]))))))) w) := by
  obtain ⟨x31, y31⟩ := hb.cell 31 (by decide)
  have z31 := hb.frozen 31
  have hw : IntKind.u64.wrap (-IntKind.u64.wrap (-U)) = U := by rw [IntKind.wrap_u64, IntKind.wrap_u64]; omega
  have e0 : (U == 0) = false := by simp; omega
  have u0 : 1 ≤ U := by omega
  have u1 : U ≤ 9223372036854775808 := by omega
  have t9 : 1000000000 ≤ U := by omega
  obtain ⟨q, hq⟩ : ∃ q, q = u / 10 ^ 9 := ⟨_, rfl⟩
  rw [← hq]
  have hqb : 1 ≤ q ∧ q ≤ 9223372036 := by rw [hq]; omega
  obtain ⟨Q, hQ⟩ : ∃ Q : Int, Q = (q : Int) := ⟨_, rfl⟩
  have q1 : 1 ≤ Q := by omega
  have q2 : Q ≤ 9223372036 := by omega
  obtain ⟨M, eM⟩ : ∃ M : Int, Q / 60 = M := ⟨_, rfl⟩
  have m1 : 1 ≤ M := by rw [← eM, hQ, hq]; omega
  have m2 : M ≤ 153722867 := by omega
  obtain ⟨H, eH⟩ : ∃ H : Int, M / 60 = H := ⟨_, rfl⟩
  have n1 : 1 ≤ H := by rw [← eH, ← eM, hQ, hq]; omega
  have n2 : H ≤ 2562047 := by omega
  have HL := Lib.hid (And.intro (fracT_length u 9) (And.intro (decs_length 1 (q % 60) (by omega)) (And.intro (decs_length 1 (q / 60 % 60) (by omega)) (decs_length 6 (q / 60 / 60) (by omega)))))
  have HB := Lib.hid (And.intro hb (And.intro hq (And.intro hU (And.intro hQ (show u ≤ 18446744073709551615 by omega)))))
  have HQ := Lib.hid hqb
  clear hb hq hU h0 h1 hQ hqb
  go_enter Tryd.func47, Tryd.ntmps47
  go_wp2_with (first
    | (go_at_call 68; refine (fmtint_at b (k3 - 1) 32 (104 :: (decs (q / 60 % 60) ++ (109 :: (decs (q % 60) ++ (fracT u 9 ++ [115]))))) (q / 60 / 60) _ _ _ (by have := HB.out.2.2.2.1; omega) rfl (BufT.put' H3.out.1 104 104 (by decide) (k3 - 1) (by omega) (by omega)) (by have := HQ.out; omega) (by omega) (by omega) (by decide) (by have := HL.out; omega)).mono ?_; rintro e w4 ⟨k4, rfl, hk4, h4b, hg4⟩
       have k4a : 1 ≤ k4 := by (have := HL.out); omega
       have k4b : k4 ≤ 32 := by omega
       obtain ⟨xxk4, yyk4⟩ := h4b.cell (k4 - 1) (by omega)
       have zzk4 := h4b.frozen (k4 - 1)
       have H4 := Lib.hid (And.intro h4b hg4); clear h4b hg4 xxk3 yyk3 zzk3)
    | (go_at_call 68; refine (fmtint_at b (k2 - 1) 32 (109 :: (decs (q % 60) ++ (fracT u 9 ++ [115]))) (q / 60 % 60) _ _ _ (by have := HB.out.2.2.2.1; omega) rfl (BufT.put' H2.out.1 109 109 (by decide) (k2 - 1) (by omega) (by omega)) (by omega) (by omega) (by omega) (by decide) (by have := HL.out; omega)).mono ?_; rintro e w3 ⟨k3, rfl, hk3, h3b, hg3⟩
       have k3a : 1 ≤ k3 := by (have := HL.out); omega
       have k3b : k3 ≤ 32 := by omega
       obtain ⟨xxk3, yyk3⟩ := h3b.cell (k3 - 1) (by omega)
       have zzk3 := h3b.frozen (k3 - 1)
       have hsl3 := slice32 b ((k3 : Int) - 1) (k3 - 1) (by omega) (by omega)
       have H3 := Lib.hid (And.intro h3b hg3); clear h3b hg3 xxk2 yyk2 zzk2)
    | (go_at_call 68; refine (fmtint_at b k1 32 (fracT u 9 ++ [115]) (q % 60) _ _ _ (by have := HB.out.2.2.2.1; have := HQ.out; omega) rfl H1.out.1 (by omega) (by omega) (by omega) (by decide) (by have := HL.out; omega)).mono ?_; rintro e w2 ⟨k2, rfl, hk2, h2b, hg2⟩
       have k2a : 1 ≤ k2 := by (have := HL.out); omega
       have k2b : k2 ≤ 32 := by omega
       obtain ⟨xxk2, yyk2⟩ := h2b.cell (k2 - 1) (by omega)
       have zzk2 := h2b.frozen (k2 - 1)
       have hsl2 := slice32 b ((k2 : Int) - 1) (k2 - 1) (by omega) (by omega)
       have H2 := Lib.hid (And.intro h2b hg2); clear h2b hg2)
    | (go_at_call 67; refine (fmtfrac_at b 31 32 [115] u 9 Q _ _ _ _ HB.out.2.2.1 (by decide) (by rw [HB.out.2.2.2.1, HB.out.2.1]) rfl (BufT.put' HB.out.1 115 115 (by decide) 31 (by decide) (by decide)) HB.out.2.2.2.2 (by decide) (by decide) (by decide) (by decide)).mono ?_; rintro e w1 ⟨k1, rfl, hk1, h1b, hg1⟩; have hsl1 := slice32 b k1 k1 rfl (by omega)
       have H1 := Lib.hid (And.intro h1b hg1); clear h1b hg1 y31 z31))
  go_ret
  exact ⟨k4 - 1, by rw [show ((k4 - 1 : Nat) : Int) = (k4 : Int) - 1 by omega]; rfl, by omega, BufT.put' H4.out.1 45 45 (by decide) (k4 - 1) (by omega) (by omega), only_at (grown_g (only_at (grown_g (only_at (grown_g (grown_g (only_at (only_of_below (Below.refl _ _) _) _ _) H1.out.2) H2.out.2) _ _) H3.out.2) _ _) H4.out.2) _ _⟩
end Go.Proofs.YtdbnconphcaclaaDoor
