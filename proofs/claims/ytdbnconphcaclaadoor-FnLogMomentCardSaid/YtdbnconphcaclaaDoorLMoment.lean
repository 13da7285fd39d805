/-
  impl.LMoment: a time by the layouts of RFC 3339. Conditions: as each theorem says.
-/
import Derived.Test.YtdbnconphcaclaaDoorRfc
namespace Go.Proofs.YtdbnconphcaclaaDoor
open Go.RowKit
set_option linter.unusedVariables false

def fullT (E n s v : Nat) (m : Int) (nanos : Bool) : List UInt8 := stampT E n s ++ (if nanos then fracT v 9 else []) ++ zoneT m
theorem rfc_any (ext nano off m : Int) (nanos : Bool) (hm0 : -840 ≤ m) (hm1 : m ≤ 840) (hoff : off = 60 * m) (E n s v g : Nat) (zone : ByteArray) (w : World) (hb : BH w g 0 []) (hext : ext - 62135596800 + off = 86400 * (146097 * (E : Int) + (n : Int) - 719468) + (s : Int)) (h0 : -9223372037 ≤ ext - 62135596800) (h1 : ext - 62135596800 ≤ 9223372037) (hE : E ≤ 10) (hn : n < 146097) (hs : s < 86400) (hv : nano = (v : Int)) (hv1 : v ≤ 999999999) :
    Calls Tryd.prog 77 #[.agg #[.int .i64 ext, .int .i32 nano, .string zone, .int .i64 off], .slice (some ⟨g, 0, none⟩) 0 64, .bool nanos] w fun e w' => ∃ k, e = .returned (.slice (some ⟨g, 0, none⟩) k 64) ∧ k ≤ 64 ∧ BH w' g k (fullT E n s v m nanos) ∧ w.grownBy w' (some g) := by
  unfold fullT
  rcases Int.lt_trichotomy m 0 with hm | hm | hm
  · cases nanos
    · rw [if_neg (by decide), List.append_nil]
      exact rfc_plain_west ext nano m (by omega) hm0 E n s v g zone w hb off hoff hext h0 h1 hE hn hs hv hv1
    · rw [if_pos rfl]
      exact rfc_nano_west ext nano m (by omega) hm0 E n s v g zone w hb off hoff hext h0 h1 hE hn hs hv hv1
  · subst hm
    have ho : off = 0 := by omega
    subst ho
    cases nanos
    · rw [if_neg (by decide), List.append_nil]
      exact rfc_plain_utc ext nano E n s v g zone w hb hext h0 h1 hE hn hs hv hv1
    · rw [if_pos rfl]
      exact rfc_nano_utc ext nano E n s v g zone w hb hext h0 h1 hE hn hs hv hv1
  · cases nanos
    · rw [if_neg (by decide), List.append_nil]
      exact rfc_plain_east ext nano m (by omega) hm1 E n s v g zone w hb off hoff hext h0 h1 hE hn hs hv hv1
    · rw [if_pos rfl]
      exact rfc_nano_east ext nano m (by omega) hm1 E n s v g zone w hb off hoff hext h0 h1 hE hn hs hv hv1

theorem BH.text {w : World} {g k : Nat} {l : List UInt8} (h : BH w g k l) : Lib.Bytes w g 0 ⟨l.toArray⟩ := by
  obtain ⟨h1, T, cs, hb, hs, ht⟩ := h
  intro i hi
  have hi' : i < l.length := by simpa [ByteArray.size] using hi
  rw [hb.cell, Nat.zero_add]
  have e : (cs.toList.take k)[i]? = (bytesV l)[i]? := by rw [ht]
  rw [List.getElem?_take, if_pos (by omega), Array.getElem?_toList] at e
  rw [e]
  simp only [bytesV, List.getElem?_map]
  rw [List.getElem?_eq_getElem hi']
  rfl
theorem BH.new (w : World) (T : TypeId) (cs : Array Value) (h : cs.size = 64) : BH (w.alloc (.cells cs T)) w.heap.size 0 [] :=
  ⟨rfl, T, cs, Blk.new w T cs, h, by simp [bytesV]⟩

theorem first_box {w : World} {o : Obj} {g n : Nat} {l : List UInt8} (h : BH w g n l) : BH (w.alloc o) g n l := h.alloc o
theorem first_grown {w w' : World} {o : Obj} {g : Nat} (h : (w.alloc o).grownBy w' (some g)) : w.grownBy w' (some g) := grown_of_alloc h
theorem box_buf (w : World) (o : Obj) (T : TypeId) (cs : Array Value) (h : cs.size = 64) : BH ((w.alloc o).alloc (.cells cs T)) (w.heap.size + 1) 0 [] := by
  have := BH.new (w.alloc o) T cs h
  rwa [show (w.alloc o).heap.size = w.heap.size + 1 by simp] at this
theorem box_frame {w w' : World} {o o' : Obj} (h : ((w.alloc o).alloc o').grownBy w' (some (w.heap.size + 1))) : Below w.heap.size w w' :=
  (((Below.refl w.heap.size w).alloc (Nat.le_refl _) o).alloc (by simp) o').grown h (by simp; omega) (fun k e => by cases e; omega)

set_option maxRecDepth 100000 in
set_option maxHeartbeats 1000000 in
theorem appfmt_plain (ext nano off m : Int) (hm0 : -840 ≤ m) (hm1 : m ≤ 840) (hoff : off = 60 * m) (E n s v g : Nat) (zone : ByteArray) (w : World) (hb : BH w g 0 []) (hext : ext - 62135596800 + off = 86400 * (146097 * (E : Int) + (n : Int) - 719468) + (s : Int)) (h0 : -9223372037 ≤ ext - 62135596800) (h1 : ext - 62135596800 ≤ 9223372037) (hE : E ≤ 10) (hn : n < 146097) (hs : s < 86400) (hv : nano = (v : Int)) (hv1 : v ≤ 999999999) :
    Calls Tryd.prog 61 #[.agg #[.int .i64 ext, .int .i32 nano, .string zone, .int .i64 off], .slice (some ⟨g, 0, none⟩) 0 64, .string ⟨#[50, 48, 48, 54, 45, 48, 49, 45, 48, 50, 84, 49, 53, 58, 48, 52, 58, 48, 53, 90, 48, 55, 58, 48, 48]⟩] w fun e w' => ∃ k, e = .returned (.slice (some ⟨g, 0, none⟩) k 64) ∧ k ≤ 64 ∧ BH w' g k (fullT E n s v m false) ∧ w.grownBy w' (some g) := by
  have H := Lib.hid (And.intro hb (And.intro hext (And.intro h0 (And.intro h1 (And.intro hE (And.intro hn (And.intro hs (And.intro hv hv1))))))))
  have HM := Lib.hid (And.intro hm0 (And.intro hm1 hoff))
  clear hb hext h0 h1 hE hn hs hv hv1 hm0 hm1 hoff
  go_enter Tryd.func61, Tryd.ntmps61
  go_wp2_with (go_at_call 77; obtain ⟨hb, hext, h0, h1, hE, hn, hs, hv, hv1⟩ := H.out; refine (rfc_any ext nano off m false HM.out.1 HM.out.2.1 HM.out.2.2 E n s v g zone _ (first_box hb) hext h0 h1 hE hn hs hv hv1).mono ?_; rintro e w1 ⟨k, rfl, hk, hb1, hg1⟩; have H1 := Lib.hid (And.intro hb1 (first_grown hg1)); clear hb hext h0 h1 hE hn hs hv hv1 hb1 hg1)
  go_ret
  exact ⟨k, rfl, hk, H1.out.1, H1.out.2⟩

set_option maxRecDepth 100000 in
set_option maxHeartbeats 1000000 in
theorem format_plain (ext nano off m : Int) (hm0 : -840 ≤ m) (hm1 : m ≤ 840) (hoff : off = 60 * m) (E n s v : Nat) (zone : ByteArray) (w : World) (hext : ext - 62135596800 + off = 86400 * (146097 * (E : Int) + (n : Int) - 719468) + (s : Int)) (h0 : -9223372037 ≤ ext - 62135596800) (h1 : ext - 62135596800 ≤ 9223372037) (hE : E ≤ 10) (hn : n < 146097) (hs : s < 86400) (hv : nano = (v : Int)) (hv1 : v ≤ 999999999) :
    Calls Tryd.prog 39 #[.agg #[.int .i64 ext, .int .i32 nano, .string zone, .int .i64 off], .string ⟨#[50, 48, 48, 54, 45, 48, 49, 45, 48, 50, 84, 49, 53, 58, 48, 52, 58, 48, 53, 90, 48, 55, 58, 48, 48]⟩] w fun e w' => e = .returned (.string ⟨(fullT E n s v m false).toArray⟩) ∧ Below w.heap.size w w' := by
  have H := Lib.hid (And.intro hext (And.intro h0 (And.intro h1 (And.intro hE (And.intro hn (And.intro hs (And.intro hv hv1)))))))
  have HM := Lib.hid (And.intro hm0 (And.intro hm1 hoff))
  clear hext h0 h1 hE hn hs hv hv1 hm0 hm1 hoff
  obtain ⟨T, hT⟩ : ∃ T, T = fullT E n s v m false := ⟨_, rfl⟩
  rw [← hT]
  have HT := Lib.hid hT
  clear hT
  go_enter Tryd.func39, Tryd.ntmps39
  go_wp2_with (go_at_call 61; obtain ⟨hext, h0, h1, hE, hn, hs, hv, hv1⟩ := H.out; refine (appfmt_plain ext nano off m HM.out.1 HM.out.2.1 HM.out.2.2 E n s v (w.heap.size + 1) zone _ (box_buf w _ _ _ rfl) hext h0 h1 hE hn hs hv hv1).mono ?_; rintro e w1 ⟨k, rfl, hk, hb1, hg1⟩
               rw [← HT.out] at hb1
               have ht := Lib.run_convert_whole (P := Tryd.prog) w1 29 5 9 Tryd.underlying29 Tryd.underlying5 Tryd.underlying9 (w.heap.size + 1) 0 ⟨T.toArray⟩ hb1.text 64
               rw [show (ByteArray.mk T.toArray).size = k by have := hb1.1; simp [ByteArray.size, this]] at ht
               have H1 := Lib.hid hg1
               clear hext h0 h1 hE hn hs hv hv1 hb1 hg1)
  go_ret
  exact ⟨rfl, box_frame H1.out⟩

set_option maxRecDepth 100000 in
set_option maxHeartbeats 1000000 in
theorem appfmt_nano (ext nano off m : Int) (hm0 : -840 ≤ m) (hm1 : m ≤ 840) (hoff : off = 60 * m) (E n s v g : Nat) (zone : ByteArray) (w : World) (hb : BH w g 0 []) (hext : ext - 62135596800 + off = 86400 * (146097 * (E : Int) + (n : Int) - 719468) + (s : Int)) (h0 : -9223372037 ≤ ext - 62135596800) (h1 : ext - 62135596800 ≤ 9223372037) (hE : E ≤ 10) (hn : n < 146097) (hs : s < 86400) (hv : nano = (v : Int)) (hv1 : v ≤ 999999999) :
    Calls Tryd.prog 61 #[.agg #[.int .i64 ext, .int .i32 nano, .string zone, .int .i64 off], .slice (some ⟨g, 0, none⟩) 0 64, .string ⟨#[50, 48, 48, 54, 45, 48, 49, 45, 48, 50, 84, 49, 53, 58, 48, 52, 58, 48, 53, 46, 57, 57, 57, 57, 57, 57, 57, 57, 57, 90, 48, 55, 58, 48, 48]⟩] w fun e w' => ∃ k, e = .returned (.slice (some ⟨g, 0, none⟩) k 64) ∧ k ≤ 64 ∧ BH w' g k (fullT E n s v m true) ∧ w.grownBy w' (some g) := by
  have H := Lib.hid (And.intro hb (And.intro hext (And.intro h0 (And.intro h1 (And.intro hE (And.intro hn (And.intro hs (And.intro hv hv1))))))))
  have HM := Lib.hid (And.intro hm0 (And.intro hm1 hoff))
  clear hb hext h0 h1 hE hn hs hv hv1 hm0 hm1 hoff
  go_enter Tryd.func61, Tryd.ntmps61
  go_wp2_with (go_at_call 77; obtain ⟨hb, hext, h0, h1, hE, hn, hs, hv, hv1⟩ := H.out; refine (rfc_any ext nano off m true HM.out.1 HM.out.2.1 HM.out.2.2 E n s v g zone _ (first_box hb) hext h0 h1 hE hn hs hv hv1).mono ?_; rintro e w1 ⟨k, rfl, hk, hb1, hg1⟩; have H1 := Lib.hid (And.intro hb1 (first_grown hg1)); clear hb hext h0 h1 hE hn hs hv hv1 hb1 hg1)
  go_ret
  exact ⟨k, rfl, hk, H1.out.1, H1.out.2⟩

set_option maxRecDepth 100000 in
set_option maxHeartbeats 1000000 in
theorem format_nano (ext nano off m : Int) (hm0 : -840 ≤ m) (hm1 : m ≤ 840) (hoff : off = 60 * m) (E n s v : Nat) (zone : ByteArray) (w : World) (hext : ext - 62135596800 + off = 86400 * (146097 * (E : Int) + (n : Int) - 719468) + (s : Int)) (h0 : -9223372037 ≤ ext - 62135596800) (h1 : ext - 62135596800 ≤ 9223372037) (hE : E ≤ 10) (hn : n < 146097) (hs : s < 86400) (hv : nano = (v : Int)) (hv1 : v ≤ 999999999) :
    Calls Tryd.prog 39 #[.agg #[.int .i64 ext, .int .i32 nano, .string zone, .int .i64 off], .string ⟨#[50, 48, 48, 54, 45, 48, 49, 45, 48, 50, 84, 49, 53, 58, 48, 52, 58, 48, 53, 46, 57, 57, 57, 57, 57, 57, 57, 57, 57, 90, 48, 55, 58, 48, 48]⟩] w fun e w' => e = .returned (.string ⟨(fullT E n s v m true).toArray⟩) ∧ Below w.heap.size w w' := by
  have H := Lib.hid (And.intro hext (And.intro h0 (And.intro h1 (And.intro hE (And.intro hn (And.intro hs (And.intro hv hv1)))))))
  have HM := Lib.hid (And.intro hm0 (And.intro hm1 hoff))
  clear hext h0 h1 hE hn hs hv hv1 hm0 hm1 hoff
  obtain ⟨T, hT⟩ : ∃ T, T = fullT E n s v m true := ⟨_, rfl⟩
  rw [← hT]
  have HT := Lib.hid hT
  clear hT
  go_enter Tryd.func39, Tryd.ntmps39
  go_wp2_with (go_at_call 61; obtain ⟨hext, h0, h1, hE, hn, hs, hv, hv1⟩ := H.out; refine (appfmt_nano ext nano off m HM.out.1 HM.out.2.1 HM.out.2.2 E n s v (w.heap.size + 1) zone _ (box_buf w _ _ _ rfl) hext h0 h1 hE hn hs hv hv1).mono ?_; rintro e w1 ⟨k, rfl, hk, hb1, hg1⟩
               rw [← HT.out] at hb1
               have ht := Lib.run_convert_whole (P := Tryd.prog) w1 29 5 9 Tryd.underlying29 Tryd.underlying5 Tryd.underlying9 (w.heap.size + 1) 0 ⟨T.toArray⟩ hb1.text 64
               rw [show (ByteArray.mk T.toArray).size = k by have := hb1.1; simp [ByteArray.size, this]] at ht
               have H1 := Lib.hid hg1
               clear hext h0 h1 hE hn hs hv hv1 hb1 hg1)
  go_ret
  exact ⟨rfl, box_frame H1.out⟩
end Go.Proofs.YtdbnconphcaclaaDoor
