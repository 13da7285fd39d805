/-
  impl.LMoment. Conditions: as each theorem says.
-/
import Derived.Test.YtdbnconphcaclaaDoorLMoment
namespace Go.Proofs.YtdbnconphcaclaaDoor
open Go.RowKit
set_option linter.unusedVariables false

theorem ret_time {a b c a' b' c' : Int} {z : ByteArray} {k1 k2 k3 : IntKind} (h1 : a = a') (h2 : b = b') (h3 : c = c') : Ending.returned (.agg #[.int k1 a, .int k2 b, .string z, .int k3 c]) = Ending.returned (.agg #[.int k1 a', .int k2 b', .string z, .int k3 c']) := by rw [h1, h2, h3]
theorem unix_ret (w : World) (a b c : Int) (z : ByteArray) (tm : Array Value) (htm : tm.getD 4 undef = .pointer (some ⟨w.heap.size, 0, none⟩)) :
    (results Tryd.f59 tm).run Tryd.prog (w.alloc (.cells #[.int .i64 a, .int .i32 b, .string z, .int .i64 c] 73)) = .ok (.agg #[.int .i64 a, .int .i32 b, .string z, .int .i64 c]) (w.alloc (.cells #[.int .i64 a, .int .i32 b, .string z, .int .i64 c] 73)) := by
  obtain ⟨-, e0, e1, e2, e3⟩ := Box.new w a b c z 73
  have htm' : tm[4]?.getD undef = .pointer (some ⟨w.heap.size, 0, none⟩) := by simpa using htm
  simp [results, Tryd.results59, go_sem, e0, e1, e2, e3, htm']
set_option maxRecDepth 100000 in
theorem unix_at (ns Q R ext : Int) (h : ns = 1000000000 * Q + R) (hr0 : 0 ≤ R) (hr1 : R ≤ 999999999) (he : ext = Q + 62135596800) (n0 : -9223372036854775808 ≤ ns) (n1 : ns ≤ 9223372036854775807) (w : World) :
    Calls Tryd.prog 59 #[.int .i64 0, .int .i64 ns] w fun e w' => e = .returned (.agg #[.int .i64 ext, .int .i32 R, .string ⟨#[85, 84, 67]⟩, .int .i64 0]) ∧ Below w.heap.size w w' := by
  by_cases hn : ns < 0
  · obtain ⟨T, eT⟩ : ∃ T : Int, ns.tdiv 1000000000 = T := ⟨_, rfl⟩
    have hT := Int.tdiv_mul_add_tmod ns 1000000000
    have hV0 := Int.tmod_nonneg (a := -ns) 1000000000 (by omega)
    have hV1 := Int.tmod_lt_of_pos (-ns) (show (0 : Int) < 1000000000 by decide)
    rw [Int.neg_tmod] at hV0 hV1
    rw [eT] at hT
    obtain ⟨V, hV⟩ : ∃ V : Int, ns - T * 1000000000 = V := ⟨_, rfl⟩
    have hVm : ns.tmod 1000000000 = V := by omega
    rw [hVm] at hV0 hV1
    have v0 : -1000000000 < V := by omega
    have v1 : V ≤ 0 := by omega
    have t0 : -9223372036 ≤ T := by omega
    have t1 : T ≤ 0 := by omega
    have HZ := Lib.hid (And.intro h (And.intro he hV))
    clear h he hT hV0 hV1 hVm
    by_cases hv : V < 0
    · go_enter Tryd.func59, Tryd.ntmps59
      go_wp2
      refine bodyPost_ret (unix_ret w _ _ _ _ _ rfl) rfl ⟨ret_time ?_ ?_ rfl, (Below.refl w.heap.size w).alloc (Nat.le_refl _) _⟩
      · have := HZ.out; omega
      · have := HZ.out; omega
    · go_enter Tryd.func59, Tryd.ntmps59
      go_wp2
      refine bodyPost_ret (unix_ret w _ _ _ _ _ rfl) rfl ⟨ret_time ?_ ?_ rfl, (Below.refl w.heap.size w).alloc (Nat.le_refl _) _⟩
      · have := HZ.out; omega
      · have := HZ.out; omega
  · by_cases h9 : ns < 1000000000
    · have HZ := Lib.hid (And.intro h he)
      clear h he
      go_enter Tryd.func59, Tryd.ntmps59
      go_wp2
      refine bodyPost_ret (unix_ret w _ _ _ _ _ rfl) rfl ⟨ret_time ?_ ?_ rfl, (Below.refl w.heap.size w).alloc (Nat.le_refl _) _⟩
      · have := HZ.out; omega
      · have := HZ.out; omega
    · have eQ : ns / 1000000000 = Q := by omega
      have eR : ns - Q * 1000000000 = R := by omega
      have q0 : 1 ≤ Q := by omega
      have q1 : Q ≤ 9223372036 := by omega
      have HZ := Lib.hid (And.intro h he)
      clear h he
      go_enter Tryd.func59, Tryd.ntmps59
      go_wp2
      refine bodyPost_ret (unix_ret w _ _ _ _ _ rfl) rfl ⟨ret_time ?_ ?_ rfl, (Below.refl w.heap.size w).alloc (Nat.le_refl _) _⟩
      · have := HZ.out; omega
      · have := HZ.out; omega

theorem time_ret {fn : Func} {k : Nat} (hres : fn.results = #[.cell k 73]) (W : World) (g : Nat) (a b c : Int) (z : ByteArray) (h : Box W g a b c z) (tm : Array Value) (htm : tm.getD k undef = .pointer (some ⟨g, 0, none⟩)) :
    (results fn tm).run Tryd.prog W = .ok (.agg #[.int .i64 a, .int .i32 b, .string z, .int .i64 c]) W := by
  obtain ⟨-, e0, e1, e2, e3⟩ := h
  have htm' : tm[k]?.getD undef = .pointer (some ⟨g, 0, none⟩) := by simpa using htm
  simp [results, hres, go_sem, e0, e1, e2, e3, htm']
set_option maxRecDepth 100000 in
theorem in_at (ext R off o2 : Int) (z z2 : ByteArray) (w : World) :
    Calls Tryd.prog 60 #[.agg #[.int .i64 ext, .int .i32 R, .string z, .int .i64 off], .string z2, .int .i64 o2] w fun e w' => e = .returned (.agg #[.int .i64 ext, .int .i32 R, .string z2, .int .i64 o2]) ∧ Below w.heap.size w w' := by
  go_enter Tryd.func60, Tryd.ntmps60
  go_wp2
  have hb := Box.new (w.alloc (.cells #[.int .i64 ext, .int .i32 R, .string z2, .int .i64 o2] 73)) ext R o2 z2 73
  refine bodyPost_ret (time_ret Tryd.results60 _ _ _ _ _ _ hb _ (by simp)) rfl ⟨rfl, ((Below.refl w.heap.size w).alloc (Nat.le_refl _) _).alloc (by simp) _⟩

theorem box_sets {w : World} {b : Nat} {T : TypeId} {cs : Array Value} (h : Blk w b T cs) (hs : cs.size = 4) (ext nano off : Int) (zone : ByteArray) : Box ((((w.setCell ⟨b, 0, none⟩ (.int .i64 ext)).setCell ⟨b, 1, none⟩ (.int .i32 nano)).setCell ⟨b, 2, none⟩ (.string zone)).setCell ⟨b, 3, none⟩ (.int .i64 off)) b ext nano off zone := by
  have k := (((h.set_ 0 (.int .i64 ext)).set_ 1 (.int .i32 nano)).set_ 2 (.string zone)).set_ 3 (.int .i64 off)
  refine ⟨k.lt, ?_, ?_, ?_, ?_⟩
  · rw [k.cell]; simp [hs]
  · rw [k.cell]; simp [hs]
  · rw [k.cell]; simp [hs]
  · rw [k.cell]; simp [hs]
theorem zero_box {w w1 w2 : World} {cs : Array Value} {T : TypeId} (h : Below (w.alloc (.cells cs T)).heap.size (w.alloc (.cells cs T)) w1) (h2 : Below w1.heap.size w1 w2) :
    Blk w2 w.heap.size T cs ∧ w2.cell? ⟨w.heap.size, 0, none⟩ = cs[0]? ∧ w2.cell? ⟨w.heap.size, 1, none⟩ = cs[1]? ∧ w2.cell? ⟨w.heap.size, 2, none⟩ = cs[2]? ∧ w2.cell? ⟨w.heap.size, 3, none⟩ = cs[3]? ∧
      w2.frozen? ⟨w.heap.size, 0, none⟩ = false ∧ w2.frozen? ⟨w.heap.size, 1, none⟩ = false ∧ w2.frozen? ⟨w.heap.size, 2, none⟩ = false ∧ w2.frozen? ⟨w.heap.size, 3, none⟩ = false := by
  have hk := (Blk.new w T cs).below (h.trans (h2.mono h.size)) (by simp)
  exact ⟨hk, hk.cell 0, hk.cell 1, hk.cell 2, hk.cell 3, hk.frozen 0, hk.frozen 1, hk.frozen 2, hk.frozen 3⟩
set_option maxRecDepth 100000 in
theorem momentat (ns Q R ext off : Int) (h : ns = 1000000000 * Q + R) (hr0 : 0 ≤ R) (hr1 : R ≤ 999999999) (he : ext = Q + 62135596800) (n0 : -9223372036854775808 ≤ ns) (n1 : ns ≤ 9223372036854775807) (w : World) :
    Calls Tryd.prog 38 #[.int .i64 ns, .int .i64 off] w fun e w' => e = .returned (.agg #[.int .i64 ext, .int .i32 R, .string ⟨#[]⟩, .int .i64 off]) ∧ Below w.heap.size w w' := by
  have HZ := Lib.hid (And.intro h (And.intro hr0 (And.intro hr1 he)))
  clear h he
  go_enter Tryd.func38, Tryd.ntmps38
  go_wp2_with (first
    | (go_at_call 59; refine (unix_at ns Q R ext HZ.out.1 HZ.out.2.1 HZ.out.2.2.1 HZ.out.2.2.2 n0 n1 _).mono ?_; rintro e w1 ⟨rfl, hb⟩; have HB := Lib.hid hb; clear hb)
    | (go_at_call 60; refine (in_at ext R 0 off _ _ _).mono ?_; rintro e w2 ⟨rfl, hb2⟩
       have hbx := zero_box HB.out hb2
       obtain ⟨hk, c0, c1, c2, c3, f0, f1, f2, f3⟩ := hbx
       have HK := Lib.hid hk; clear hk
       have HB2 := Lib.hid hb2; clear hb2))
  refine bodyPost_ret (time_ret Tryd.results38 _ _ _ _ _ _ (box_sets HK.out rfl ext R off _) _ (by simp)) rfl ⟨rfl, ?_⟩
  have hb := ((Below.refl w.heap.size w).alloc (Nat.le_refl _) (.cells #[.int .i64 0, .int .i32 0, .string ⟨#[]⟩, .int .i64 0] 73)).trans ((HB.out.trans (HB2.out.mono HB.out.size)).mono (by simp))
  exact (((hb.setCell (p := ⟨w.heap.size, 0, none⟩) (Nat.le_refl _) _).setCell (p := ⟨w.heap.size, 1, none⟩) (Nat.le_refl _) _).setCell (p := ⟨w.heap.size, 2, none⟩) (Nat.le_refl _) _).setCell (p := ⟨w.heap.size, 3, none⟩) (Nat.le_refl _) _
set_option maxRecDepth 100000 in
theorem lmoment_plain (ns Q R off m : Int) (h : ns = 1000000000 * Q + R) (v : Nat) (hv : R = (v : Int)) (hv1 : v ≤ 999999999) (n0 : -9223372036854775808 ≤ ns) (n1 : ns ≤ 9223372036854775807) (hm0 : -840 ≤ m) (hm1 : m ≤ 840) (hoff : off = 60 * m) (E n s : Nat) (hQ : Q + off = 86400 * (146097 * (E : Int) + (n : Int) - 719468) + (s : Int)) (hE : E ≤ 10) (hn : n < 146097) (hs : s < 86400) (w : World) :
    Calls Tryd.prog 18 #[.int .i64 ns, .int .i64 off, .string ⟨#[50, 48, 48, 54, 45, 48, 49, 45, 48, 50, 84, 49, 53, 58, 48, 52, 58, 48, 53, 90, 48, 55, 58, 48, 48]⟩] w fun e w' => e = .returned (.string ⟨(fullT E n s v m false).toArray⟩) ∧ Below w.heap.size w w' := by
  obtain ⟨ext, he⟩ : ∃ ext : Int, ext = Q + 62135596800 := ⟨_, rfl⟩
  have hx : ext - 62135596800 + off = 86400 * (146097 * (E : Int) + (n : Int) - 719468) + (s : Int) := by omega
  have x0 : -9223372037 ≤ ext - 62135596800 := by omega
  have x1 : ext - 62135596800 ≤ 9223372037 := by omega
  have HZ := Lib.hid (And.intro h (And.intro he (And.intro hv (And.intro hv1 (And.intro n0 n1)))))
  have HM := Lib.hid (And.intro hm0 (And.intro hm1 (And.intro hoff (And.intro hx (And.intro x0 (And.intro x1 (And.intro hE (And.intro hn hs))))))))
  clear h he hv hv1 n0 n1 hm0 hm1 hoff hx x0 x1 hE hn hs hQ
  go_enter Tryd.func18, Tryd.ntmps18
  go_wp2_with (first
    | (go_at_call 38; obtain ⟨h, he, hv, hv1, n0, n1⟩ := HZ.out; refine (momentat ns Q R ext off h (by omega) (by omega) he n0 n1 _).mono ?_; rintro e w1 ⟨rfl, hb⟩; have HB := Lib.hid hb; clear hb h he hv hv1 n0 n1)
    | (go_at_call 39; obtain ⟨hm0, hm1, hoff, hx, x0, x1, hE, hn, hs⟩ := HM.out; refine (format_plain ext R off m hm0 hm1 hoff E n s v _ _ hx x0 x1 hE hn hs HZ.out.2.2.1 HZ.out.2.2.2.1).mono ?_; rintro e w2 ⟨rfl, hb⟩; have HB2 := Lib.hid hb; clear hb hm0 hm1 hoff hx x0 x1 hE hn hs))
  go_ret
  exact ⟨rfl, HB.out.trans (HB2.out.mono HB.out.size)⟩
set_option maxRecDepth 100000 in
theorem lmoment_nano (ns Q R off m : Int) (h : ns = 1000000000 * Q + R) (v : Nat) (hv : R = (v : Int)) (hv1 : v ≤ 999999999) (n0 : -9223372036854775808 ≤ ns) (n1 : ns ≤ 9223372036854775807) (hm0 : -840 ≤ m) (hm1 : m ≤ 840) (hoff : off = 60 * m) (E n s : Nat) (hQ : Q + off = 86400 * (146097 * (E : Int) + (n : Int) - 719468) + (s : Int)) (hE : E ≤ 10) (hn : n < 146097) (hs : s < 86400) (w : World) :
    Calls Tryd.prog 18 #[.int .i64 ns, .int .i64 off, .string ⟨#[50, 48, 48, 54, 45, 48, 49, 45, 48, 50, 84, 49, 53, 58, 48, 52, 58, 48, 53, 46, 57, 57, 57, 57, 57, 57, 57, 57, 57, 90, 48, 55, 58, 48, 48]⟩] w fun e w' => e = .returned (.string ⟨(fullT E n s v m true).toArray⟩) ∧ Below w.heap.size w w' := by
  obtain ⟨ext, he⟩ : ∃ ext : Int, ext = Q + 62135596800 := ⟨_, rfl⟩
  have hx : ext - 62135596800 + off = 86400 * (146097 * (E : Int) + (n : Int) - 719468) + (s : Int) := by omega
  have x0 : -9223372037 ≤ ext - 62135596800 := by omega
  have x1 : ext - 62135596800 ≤ 9223372037 := by omega
  have HZ := Lib.hid (And.intro h (And.intro he (And.intro hv (And.intro hv1 (And.intro n0 n1)))))
  have HM := Lib.hid (And.intro hm0 (And.intro hm1 (And.intro hoff (And.intro hx (And.intro x0 (And.intro x1 (And.intro hE (And.intro hn hs))))))))
  clear h he hv hv1 n0 n1 hm0 hm1 hoff hx x0 x1 hE hn hs hQ
  go_enter Tryd.func18, Tryd.ntmps18
  go_wp2_with (first
    | (go_at_call 38; obtain ⟨h, he, hv, hv1, n0, n1⟩ := HZ.out; refine (momentat ns Q R ext off h (by omega) (by omega) he n0 n1 _).mono ?_; rintro e w1 ⟨rfl, hb⟩; have HB := Lib.hid hb; clear hb h he hv hv1 n0 n1)
    | (go_at_call 39; obtain ⟨hm0, hm1, hoff, hx, x0, x1, hE, hn, hs⟩ := HM.out; refine (format_nano ext R off m hm0 hm1 hoff E n s v _ _ hx x0 x1 hE hn hs HZ.out.2.2.1 HZ.out.2.2.2.1).mono ?_; rintro e w2 ⟨rfl, hb⟩; have HB2 := Lib.hid hb; clear hb hm0 hm1 hoff hx x0 x1 hE hn hs))
  go_ret
  exact ⟨rfl, HB.out.trans (HB2.out.mono HB.out.size)⟩
end Go.Proofs.YtdbnconphcaclaaDoor
