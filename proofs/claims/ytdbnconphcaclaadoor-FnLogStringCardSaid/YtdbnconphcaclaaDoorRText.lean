/-
  spec's reader of JSON: text. Conditions: a text as esc writes it, at most 100000 bytes, its quotation mark behind it; the tables of unicode/utf8 lie as their initialisers lay them.
-/
import Derived.Test.YtdbnconphcaclaaDoorTx
import Derived.Test.YtdbnconphcaclaaDoorShelfApp
import Derived.Deep.AppendLies
import Derived.StillTailTactics
namespace Go.Proofs.YtdbnconphcaclaaDoor
open Go.RowKit
set_option linter.unusedVariables false

theorem cells_enc (r : Int) : Lib.runeCells r = bytesV (Lib.encodeRune r) := by
  unfold bytesV
  rw [← Lib.byteCells_encodeRune]
  rfl
theorem append_rune (B : Nat) (v : Value) (acc : List UInt8) (r : Nat) (w : World) (hr : r ≤ 1114111) (hown : OwnB w B v acc) (hlen : acc.length ≤ 1000000) (hB : B ≤ w.heap.size) :
    Calls Tryd.prog 75 #[v, .int .i32 r] w fun e w' => ∃ v', e = .returned v' ∧ OwnB w' B v' (acc ++ Lib.encodeRune r) ∧ Below B w w' := by
  have h := Tryd.utf8_AppendRune_plain B v acc.length (bytesV acc) (r : Int) (by omega) (by omega) w hown (by omega) hB
  refine h.mono ?_
  rintro e w' ⟨v', rfl, ho, o, hg⟩
  refine ⟨v', rfl, hown.more ho (cells_enc r) (Lib.runeCells_length r), ?_⟩
  have h1 : Below B w (w.alloc o) := (Below.refl B w).alloc hB o
  exact h1.trans ⟨hg.os, hg.tape, hg.output, hg.size, fun k hk => hg.block k (by simp; omega) (fun e => by have := (hown.lt k e.symm).1; omega)⟩

/-- Where the reader stands. -/
def atOf (w : World) (g : Nat) : Nat := match w.cell? ⟨g, 1, none⟩ with
  | some (.int _ n) => n.toNat
  | _ => 0
theorem JS.atOf {w : World} {g i d : Nat} {s : ByteArray} (h : JS w g s i d) : atOf w g = i := by
  unfold Go.Proofs.YtdbnconphcaclaaDoor.atOf
  rw [h.c1]
  simp

theorem OwnB.drewN {w : World} {B : Nat} {v : Value} {l : List UInt8} (h : OwnB w B v l) (n : Nat) : OwnB (w.drewN n) B v l := h
theorem OwnB.kept_g {w w' : World} {g B : Nat} {v : Value} {l : List UInt8} (h : OwnB w B v l) (hg : w.grownBy w' (some g)) (hB : g < B) : OwnB w' B v l :=
  World.ownsRow.kept h hg (.inr (fun e => by have := (h.lt g e).1; omega))
theorem grown_below {a b c : World} {row : Option Nat} (h : a.grownBy b row) (k : Below a.heap.size b c) : a.grownBy c row :=
  ⟨k.os.trans h.os, k.tape.trans h.tape, k.output.trans h.output, Nat.le_trans h.size k.size, fun i hi hr => (k.block i hi).trans (h.block i hi hr)⟩
theorem meas {S a b c d : Nat} (e1 : a = b) (e2 : c = d) (h : d < b) (hd : d < S) : S - a < S - c := by omega
theorem below_g {w w' : World} {g : Nat} (hg : w.grownBy w' (some g)) (hl : g ≤ w.heap.size) : Below g w w' :=
  ⟨hg.os, hg.tape, hg.output, hg.size, fun k hk => hg.block k (by omega) (fun e => by cases e; omega)⟩

set_option maxRecDepth 100000 in
set_option maxHeartbeats 2000000 in
theorem text_any (R : List UInt8) (hR : R.length ≤ 100000) (g i0 d : Nat) (s : ByteArray) (w : World) (hs : s.size ≤ 100000) (hj : JS w g s i0 d) (h2 : 2 ≤ g) (hT : Lib.Utf8Tabs 0 1 w) (ht : TX s R [] i0) :
    Calls Tryd.prog 57 #[.pointer (some ⟨g, 0, none⟩)] w fun e w' => e = .returned (.tuple #[.string ⟨R.toArray⟩, .bool true]) ∧ JS w' g s s.size d ∧ w.grownBy w' (some g) := by
  have hgw : g < w.heap.size := hj.lt
  have H0 := Lib.hid (And.intro hj (And.intro hT ht))
  clear hj hT ht
  go_enter Tryd.func57, Tryd.ntmps57
  go_wp2
  go_loopw [4] (fun v wr => ∃ (i : Nat) (acc : List UInt8), JS wr g s i d ∧ OwnB wr w.heap.size v acc ∧ TX s R acc i ∧ w.grownBy wr (some g)) (fun _ wr => s.size - atOf wr g)
  case atStart => exact ⟨i0, [], H0.out.1, OwnB.nil _ _, H0.out.2.2, only_of_below (Below.refl _ _) _⟩
  case round =>
    obtain ⟨i, acc, hj, hown, htx, hbel⟩ := hrel
    have hi : i < s.size := tx_in htx
    have hacc := tx_len htx
    have hat := hj.atOf
    have h0 := hj.c0
    have h1 := hj.c1
    have f1 := hj.f 1
    have hsz := hbel.size
    have b1 : decide ((i : Int) < s.size) = true := by simp; omega
    have HJ := Lib.hid (And.intro hj (And.intro hown (And.intro hbel hat)))
    clear hat
    have hway := tx_way htx hi
    clear htx
    cases hway with
    | done h he ha =>
      have htext : ∀ n, (convert 29 9 u4).run Tryd.prog ((wr.drewN n).setCell ⟨g, 1, none⟩ (.int .i64 ((i : Int) + 1))) = .ok (.string ⟨R.toArray⟩) ((wr.drewN n).setCell ⟨g, 1, none⟩ (.int .i64 ((i : Int) + 1))) := by
        intro n
        rw [← ha]
        exact text_of_own (hown.kept_g (only_setCell (only_of_below (below_drewN (Below.refl _ _) n) _) (.inl rfl) _) hgw)
      have HE := Lib.hid he
      clear ha he hown hj
      go_wp2
      go_quiet (fail)
      go_wp2
      go_quiet (fail)
      go_wp2
      go_ret2
      refine ⟨rfl, ?_, grown_g HJ.out.2.2.1 (only_setCell (only_of_below (below_drewN (Below.refl _ _) _) _) (.inl rfl) _)⟩
      rw [← HE.out]
      exact (HJ.out.1.drewN _).next
    | rune n q0 q1 q2 hg hn q3 q4 ht =>
      have e1 : ((s[i].toNat : Int) == 34) = false := by simp; omega
      have e2 : ((s[i].toNat : Int) == 92) = false := by simp; omega
      have e3 : (32 : Int) ≤ (s[i].toNat : Int) := by omega
      obtain ⟨r, hr⟩ : ∃ r : Int, r = (dec (s.data.toList.drop i)).1 := ⟨_, rfl⟩
      have hTr := Lib.hid (tabs_keep H0.out.2.1 (below_g hbel (by omega)) h2)
      have hcase : (r == 65533) = false ∨ ¬ (n : Int) < 2 := by
        rcases Nat.lt_or_ge n 2 with h | h
        · left
          have := not_bad hg
          simp
          intro h3
          exact this ⟨by omega, by omega⟩
        · right; omega
      have hes : (s.extract i (i + n)).size = n := by rw [cut_size s i (i + n) q4]; omega
      have HES := Lib.hid hes
      clear hes
      have HR := Lib.hid (And.intro hr (And.intro (show (n : Int) = (dec (s.data.toList.drop i)).2 by rw [hn]) ht))
      clear hown hj q0 q1 q2 hr hn hg ht
      go_wp2
      go_quiet (fail)
      go_wp2
      go_quiet (fail)
      go_wp2
      go_region_with (go_at_call 33; refine (decode_call s i r n _ hi (by exact hTr.out) HR.out.1 HR.out.2.1).mono ?_; rintro e w1 ⟨rfl, hbw⟩; have hj1 : JS w1 g s i d := Blk.below (HJ.out.1.drewN _) hbw (by show g < wr.heap.size; omega); have k0 := hj1.c0; have k1 := hj1.c1; have k2 := hj1.f 1; have hown1 : OwnB w1 w.heap.size u4 acc := OwnB.below (HJ.out.2.1.drewN _) hbw; have hb1 : w.grownBy w1 (some g) := grown_g (only_drewN HJ.out.2.2.1 _) (only_of_below hbw _))
      all_goals (clear h0 h1 f1; rcases hcase with hc | hc)
      all_goals go_wp2
      all_goals
        have hwr : IntKind.i64.wrap ((i : Int) + n) = (i : Int) + n := by rw [IntKind.wrap_i64]; omega
        have p1 : (0 : Int) ≤ (i : Int) + n := by omega
        have p2 : (i : Int) + n ≤ s.size := by omega
        have p3 : (i : Int) ≤ (i : Int) + n := by omega
        have p4 : ((i : Int) + n).toNat = i + n := by omega
        go_still_tail 16, (by kernel_rfl)
        change wpList _ _ _ _ _ w1.drew
        refine app_s (.tmp 48) (.tmp 63) rfl rfl rfl (show OwnB w1.drew w.heap.size u4 acc from hown1) (s.extract i (i + n)) rfl (by rw [HES.out]; omega) (by show w.heap.size ≤ w1.heap.size; exact hb1.size) (Below.refl _ _) ?_
        intro v9 w9 hA9 hb9 hs9
        have hj9 : JS w9 g s i d := Blk.below (show Blk w1.drew g _ _ from hj1) hb9 (by omega)
        have hbel9 : w.grownBy w9 (some g) := grown_below (show w.grownBy w1.drew (some g) from only_drew hb1) hb9
        clear k0 k1 k2
        have k0 := hj9.c0
        have k1 := hj9.c1
        have k2 := hj9.f 1
        have HF := Lib.hid (And.intro hA9 (And.intro hj9 hbel9))
        clear hA9 hb9 hj9 hbel9
        go_wp2
        go_roundw
        case rel => exact ⟨i + n, _, HF.out.2.1.at_ (i + n), OwnB.kept_g HF.out.1 (only_setCell (only_of_below (Below.refl _ _) _) (.inl rfl) _) hgw, by rw [extract_list]; exact HR.out.2.2, only_setCell HF.out.2.2 (.inl rfl) _⟩
        case measure => exact meas ((HF.out.2.1.at_ (i + n)).atOf) HJ.out.2.2.2 (by omega) hi
    | one b r h q1 hb hr hr2 ht =>
      have HR := Lib.hid (And.intro hb (And.intro hr ht))
      clear hown hj hb hr ht
      go_wp2
      go_quiet (fail)
      go_wp2
      go_quiet (fail)
      go_wp2_with (first
        | (go_at_call 74; refine (unesc_one g (i + 1) d s _ hs (HJ.out.1.drewN _).next q1 b r HR.out.1 HR.out.2.1).mono ?_; rintro e w1 ⟨rfl, hj1, hg1⟩; have hgr : World.grownBy wr w1 (some g) := grown_g (only_setCell (only_of_below (below_drewN (Below.refl _ _) _) _) (.inl rfl) _) hg1; have hgl := hj1.lt)
        | (go_at_call 75; refine (append_rune w.heap.size u4 acc r _ (by omega) (HJ.out.2.1.kept_g hgr hgw) (by omega) (Nat.le_trans hsz hgr.size)).mono ?_; rintro e w2 ⟨v2, rfl, hA2, hb2⟩; have hj2 : JS w2 g s (i + 2) d := Blk.below hj1 hb2 (by omega); have hbel2 : w.grownBy w2 (some g) := grown_below (grown_g HJ.out.2.2.1 hgr) hb2; have HF := Lib.hid (And.intro hA2 (And.intro hj2 hbel2)); clear hA2 hb2 hj2 hbel2))
      go_roundw
      case rel => exact ⟨i + 2, _, HF.out.2.1, HF.out.1, HR.out.2.2, HF.out.2.2⟩
      case measure => exact meas HF.out.2.1.atOf HJ.out.2.2.2 (by omega) hi
    | hex f v h q1 h117 h6 hf hd hv hv2 ht =>
      have HR := Lib.hid (And.intro h117 (And.intro hf (And.intro hd (And.intro hv (And.intro hv2 ht)))))
      have hv5 : v ≤ 65535 := by have := (hv_lt hf).2.2.2.2; omega
      clear hown hj h117 hf hd hv hv2 ht
      go_wp2
      go_quiet (fail)
      go_wp2
      go_quiet (fail)
      go_wp2_with (first
        | (go_at_call 74; refine (unesc_hex f HR.out.2.1 g (i + 1) d s _ hs (HJ.out.1.drewN _).next q1 HR.out.1 (by omega) HR.out.2.2.1 v HR.out.2.2.2.1 HR.out.2.2.2.2.1).mono ?_; rintro e w1 ⟨rfl, hj1, hg1⟩; have hgr : World.grownBy wr w1 (some g) := grown_g (only_setCell (only_of_below (below_drewN (Below.refl _ _) _) _) (.inl rfl) _) hg1; have hgl := hj1.lt)
        | (go_at_call 75; refine (append_rune w.heap.size u4 acc v _ (by omega) (HJ.out.2.1.kept_g hgr hgw) (by omega) (Nat.le_trans hsz hgr.size)).mono ?_; rintro e w2 ⟨v2, rfl, hA2, hb2⟩; have hj2 : JS w2 g s (i + 6) d := Blk.below hj1 hb2 (by omega); have hbel2 : w.grownBy w2 (some g) := grown_below (grown_g HJ.out.2.2.1 hgr) hb2; have HF := Lib.hid (And.intro hA2 (And.intro hj2 hbel2)); clear hA2 hb2 hj2 hbel2))
      go_roundw
      case rel => exact ⟨i + 6, _, HF.out.2.1, HF.out.1, HR.out.2.2.2.2.2, HF.out.2.2⟩
      case measure => exact meas HF.out.2.1.atOf HJ.out.2.2.2 (by omega) hi
end Go.Proofs.YtdbnconphcaclaaDoor
