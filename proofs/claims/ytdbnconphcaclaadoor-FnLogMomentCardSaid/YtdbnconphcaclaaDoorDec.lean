/-
  Numbers in decimal: package time's fmtInt writes them into the tail of a buffer, spec.Unsigned as a text. Conditions: as each theorem says.
-/
import Derived.Test.YtdbnconphcaclaaDoorSmall
namespace Go.Proofs.YtdbnconphcaclaaDoor
open Go.RowKit
set_option linter.unusedVariables false

def dig (n : Nat) : UInt8 := UInt8.ofNat (48 + n % 10)
/-- The decimal digits. -/
def decs (n : Nat) : List UInt8 := if h : n < 10 then [dig n] else decs (n / 10) ++ [dig n]
theorem decs_small {n : Nat} (h : n < 10) : decs n = [dig n] := by rw [decs, dif_pos h]
theorem decs_more {n : Nat} (h : 10 ≤ n) : decs n = decs (n / 10) ++ [dig n] := by rw [decs, dif_neg (by omega)]
theorem dig_toNat (n : Nat) : (dig n).toNat = 48 + n % 10 := by
  have h : n % 10 < 10 := Nat.mod_lt _ (by decide)
  unfold dig
  rw [UInt8.toNat_ofNat']
  omega
theorem decs_length : ∀ (k n : Nat), n < 10 ^ (k + 1) → (decs n).length ≤ k + 1 := by
  intro k
  induction k with
  | zero => intro n hn; rw [decs_small (by omega)]; simp
  | succ k ih =>
    intro n hn
    rcases Nat.lt_or_ge n 10 with h | h
    · rw [decs_small h]; simp
    · rw [decs_more h, List.length_append]
      have := ih (n / 10) (by rw [Nat.pow_succ] at hn; omega)
      simp only [List.length_cons, List.length_nil]
      omega

theorem one_text {w : World} {b : UInt8} {x : Int} (hx : x = b.toNat) : (convert 29 9 (.slice (some ⟨w.heap.size, 0, none⟩) 1 1)).run Tryd.prog (w.alloc (.cells #[.int .u8 x] 5)) = .ok (.string ⟨#[b]⟩) (w.alloc (.cells #[.int .u8 x] 5)) := by
  subst hx
  refine Lib.run_convert_whole (P := Tryd.prog) _ 29 5 9 Tryd.underlying29 Tryd.underlying5 Tryd.underlying9 w.heap.size 0 ⟨#[b]⟩ ?_ 1
  intro i hi
  have h0 : i = 0 := by have : (ByteArray.mk #[b]).size = 1 := rfl; omega
  subst h0
  exact (Blk.new w 5 #[.int .u8 b.toNat]).cell 0
theorem str_cons (b : UInt8) (l : List UInt8) : (ByteArray.mk #[b]) ++ (ByteArray.mk l.toArray) = ⟨(b :: l).toArray⟩ := by
  apply ByteArray.ext
  rw [ByteArray.data_append]
  simp

set_option maxRecDepth 100000 in
theorem unsigned (n : Nat) (hn : n ≤ 18446744073709551615) (w : World) :
    Calls Tryd.prog 29 #[.int .u64 n] w fun e w' => e = .returned (.string ⟨(decs n).toArray⟩) ∧ Below w.heap.size w w' := by
  go_enter Tryd.func29, Tryd.ntmps29
  go_wp2
  go_loopw [0, 3] (fun v o wr => ∃ (m : Nat) (l : List UInt8), m ≤ n ∧ v = .int .u64 m ∧ o = .string ⟨l.toArray⟩ ∧ decs m ++ l = decs n ∧ Below w.heap.size w wr) (fun v _ _ => (intOf v).toNat)
  case atStart => exact ⟨n, [], Nat.le_refl _, rfl, rfl, by simp, Below.refl _ _⟩
  case round =>
    obtain ⟨m, l, hm, rfl, rfl, hd, hbel⟩ := hrel
    have hsz := hbel.size
    have H := Lib.hid (And.intro hd hbel)
    clear hd hbel
    have hconv := one_text (w := wr) (b := dig m) (x := 48 + (m : Int) % 10) (by rw [dig_toNat]; omega)
    obtain ⟨S, hS⟩ : ∃ S : ByteArray, S = ⟨l.toArray⟩ := ⟨_, rfl⟩
    have hS1 : S.size ≤ 100 := by
      have h1 := congrArg List.length H.out.1
      have h2 := decs_length 19 n (by omega)
      rw [hS, size_list, List.toList_toArray]
      rw [List.length_append] at h1
      omega
    rw [← hS]
    have HS := Lib.hid (show (ByteArray.mk #[dig m]) ++ S = ⟨(dig m :: l).toArray⟩ by rw [hS]; exact str_cons _ _)
    clear hS
    by_cases h10 : m < 10
    · have e1 : (m : Int) / 10 = 0 := by omega
      go_wp2
      go_ret
      refine ⟨?_, H.out.2.alloc hsz _⟩
      rw [HS.out, ← H.out.1, decs_small h10]
      rfl
    · have e1 : ((m : Int) / 10 == 0) = false := by simp; omega
      go_wp2
      go_roundw
      case rel => exact ⟨m / 10, dig m :: l, by omega, by go_num, by rw [HS.out], by rw [← H.out.1, decs_more (n := m) (by omega), List.append_assoc]; rfl, H.out.2.alloc hsz _⟩
      case measure => simp [intOf]; omega

/-- The last bytes of a buffer of 32: from k on they are l. -/
def BufT (w : World) (b k : Nat) (l : List UInt8) : Prop := ∃ (T : TypeId) (cs : Array Value), Blk w b T cs ∧ cs.size = 32 ∧ cs.toList.drop k = bytesV l
theorem BufT.cell {w : World} {b k : Nat} {l : List UInt8} (h : BufT w b k l) (j : Nat) (hj : j < 32) : ∃ u, w.cell? ⟨b, j, none⟩ = some u := by
  obtain ⟨T, cs, hb, hs, _⟩ := h
  rw [hb.cell]
  exact ⟨_, Array.getElem?_eq_getElem (by omega)⟩
theorem BufT.frozen {w : World} {b k : Nat} {l : List UInt8} (h : BufT w b k l) (j : Nat) : w.frozen? ⟨b, j, none⟩ = false := by
  obtain ⟨T, cs, hb, _⟩ := h
  exact hb.frozen j
theorem BufT.length {w : World} {b k : Nat} {l : List UInt8} (h : BufT w b k l) : l.length = 32 - k := by
  obtain ⟨T, cs, hb, hs, hd⟩ := h
  have := congrArg List.length hd
  rw [List.length_drop, bytesV_length, Array.length_toList, hs] at this
  exact this.symm
theorem BufT.put {w : World} {b k : Nat} {l : List UInt8} (h : BufT w b k l) (x : UInt8) (j : Nat) (hj : j + 1 = k) (hk : k ≤ 32) : BufT (w.setCell ⟨b, j, none⟩ (.int .u8 x.toNat)) b j (x :: l) := by
  obtain ⟨T, cs, hb, hs, hd⟩ := h
  refine ⟨T, cs.setIfInBounds j (.int .u8 x.toNat), hb.set_ j _, by simp [hs], ?_⟩
  subst hj
  have hl : j < cs.size := by omega
  rw [List.drop_eq_getElem_cons (by simp; omega)]
  have e1 : (cs.setIfInBounds j (.int .u8 x.toNat)).toList.drop (j + 1) = cs.toList.drop (j + 1) := by
    rw [Array.toList_setIfInBounds, List.drop_set_of_lt (by omega)]
  rw [e1, hd]
  simp [bytesV]

set_option maxRecDepth 100000 in
theorem fmtint (b n c : Nat) (l : List UInt8) (v : Nat) (w : World) (hb : BufT w b n l) (hv : v ≤ 18446744073709551615) (hn : n ≤ 32) (hc : n ≤ c) (hc1 : c ≤ 32) (hl : (decs v).length ≤ n) :
    Calls Tryd.prog 68 #[.slice (some ⟨b, 0, none⟩) n c, .int .u64 v] w fun e w' => ∃ k : Nat, e = .returned (.int .i64 k) ∧ k + (decs v).length = n ∧ BufT w' b k (decs v ++ l) ∧ w.grownBy w' (some b) := by
  by_cases h0 : v = 0
  · subst h0
    have h1 : 1 ≤ n := by rw [decs_small (by decide)] at hl; exact hl
    obtain ⟨u, hu⟩ := hb.cell (n - 1) (by omega)
    have hf := hb.frozen (n - 1)
    go_enter Tryd.func68, Tryd.ntmps68
    go_wp2
    go_ret
    refine ⟨n - 1, by rw [show ((n : Int) - 1) = ((n - 1 : Nat) : Int) by omega]; rfl, by rw [decs_small (by decide)]; show n - 1 + 1 = n; omega, ?_, only_setCell (only_of_below (Below.refl _ _) _) (.inl rfl) _⟩
    rw [decs_small (by decide)]
    exact hb.put 48 (n - 1) (by omega) hn
  · have e0 : ((v : Int) == 0) = false := by simp; omega
    have H := Lib.hid (And.intro hb hl)
    clear hb hl
    go_enter Tryd.func68, Tryd.ntmps68
    go_wp2
    go_loopw [1, 5] (fun x y wr => ∃ (m k : Nat) (t : List UInt8), m ≤ v ∧ x = .int .u64 m ∧ y = .int .i64 k ∧ BufT wr b k (t ++ l) ∧ k + t.length = n ∧ (m = 0 → t = decs v) ∧ (0 < m → decs m ++ t = decs v) ∧ w.grownBy wr (some b)) (fun x _ _ => (intOf x).toNat)
    case atStart => exact ⟨v, n, [], Nat.le_refl _, rfl, rfl, H.out.1, rfl, fun h => by omega, fun _ => by simp, only_of_below (Below.refl _ _) _⟩
    case round =>
      obtain ⟨m, k, t, hm, rfl, rfl, hbuf, hkt, hz, hp, hg⟩ := hrel
      by_cases hm0 : m = 0
      · subst hm0
        have HZ := Lib.hid (And.intro hbuf (And.intro hkt (And.intro (hz rfl) hg)))
        clear hbuf hkt hz hp hg
        go_wp2
        go_ret
        refine ⟨k, rfl, ?_, ?_, HZ.out.2.2.2⟩
        · rw [← HZ.out.2.2.1]; exact HZ.out.2.1
        · rw [← HZ.out.2.2.1]; exact HZ.out.1
      · have hp' := hp (by omega)
        have hlen : (decs m).length + t.length = (decs v).length := by rw [← hp', List.length_append]
        have hdp : 1 ≤ (decs m).length := by
          rcases Nat.lt_or_ge m 10 with h | h
          · rw [decs_small h]; simp
          · rw [decs_more h]; simp
        have hk1 : 1 ≤ k := by have := H.out.2; omega
        have hk2 : k ≤ n := by omega
        obtain ⟨u, hu⟩ := hbuf.cell (k - 1) (by omega)
        have hf := hbuf.frozen (k - 1)
        have hput : BufT (wr.setCell ⟨b, k - 1, none⟩ (.int .u8 ((m : Int) % 10 + 48))) b (k - 1) (dig m :: (t ++ l)) := by
          have := hbuf.put (dig m) (k - 1) (by omega) (by omega)
          rwa [show ((dig m).toNat : Int) = (m : Int) % 10 + 48 by rw [dig_toNat]; omega] at this
        have HZ := Lib.hid (And.intro hput (And.intro hkt (And.intro hp' hg)))
        clear hbuf hkt hz hp hg hput hp' hlen hdp
        have hgt : (0 : Int) < (m : Int) := by omega
        go_wp2
        go_roundw
        case rel =>
          refine ⟨m / 10, k - 1, dig m :: t, by omega, by go_num, by go_num, HZ.out.1, by have := HZ.out.2.1; simp only [List.length_cons]; omega, fun h => ?_, fun h => ?_, only_setCell HZ.out.2.2.2 (.inl rfl) _⟩
          · rw [← HZ.out.2.2.1, decs_small (by omega)]
            rfl
          · rw [← HZ.out.2.2.1, decs_more (n := m) (by omega), List.append_assoc]
            rfl
        case measure => simp [intOf]; omega
end Go.Proofs.YtdbnconphcaclaaDoor
