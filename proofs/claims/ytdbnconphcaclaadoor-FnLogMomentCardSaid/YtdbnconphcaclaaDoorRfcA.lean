/-
  package time: the parts of a time by RFC 3339. Conditions: as each theorem says.
-/
import Derived.Test.YtdbnconphcaclaaDoorNano
import Derived.Deep.RegionHeld3
namespace Go.Proofs.YtdbnconphcaclaaDoor
open Go.RowKit
set_option linter.unusedVariables false

theorem appint2_at (g n m v : Nat) (l : List UInt8) (x : Int) (hm : m = n + 2) (hx : x = v) (hv : v ≤ 99) (w : World) (hb : BH w g n l) (hn : n + 2 ≤ 64) :
    Calls Tryd.prog 93 #[.slice (some ⟨g, 0, none⟩) n 64, .int .i64 x, .int .i64 2] w fun e w' => e = .returned (.slice (some ⟨g, 0, none⟩) m 64) ∧ BH w' g m (l ++ padT v 2) ∧ w.grownBy w' (some g) := by
  subst hm
  exact appint2 g n v l x hx hv w hb hn
theorem appint4_at (g n m v : Nat) (l : List UInt8) (x : Int) (hm : m = n + 4) (hx : x = v) (hv : v ≤ 9999) (w : World) (hb : BH w g n l) (hn : n + 4 ≤ 64) :
    Calls Tryd.prog 93 #[.slice (some ⟨g, 0, none⟩) n 64, .int .i64 x, .int .i64 4] w fun e w' => e = .returned (.slice (some ⟨g, 0, none⟩) m 64) ∧ BH w' g m (l ++ padT v 4) ∧ w.grownBy w' (some g) := by
  subst hm
  exact appint4 g n v l x hx hv w hb hn
theorem BH.put1 {w : World} {g n : Nat} {l : List UInt8} (h : BH w g n l) (o : Obj) (x : UInt8) (v : Int) (hv : v = x.toNat) (hn : n < 64) (m : Nat) (hm : m = n + 1) : BH ((w.alloc o).setCell ⟨g, n, none⟩ (.int .u8 v)) g m (l ++ [x]) :=
  (h.alloc o).put x v hv hn n m rfl hm

set_option maxRecDepth 100000 in
theorem unixsec_at (ext nano off S : Int) (zone : ByteArray) (h0 : -9223372037 ≤ ext - 62135596800) (h1 : ext - 62135596800 ≤ 9223372037) (hS : ext - 62135596800 = S) (w : World) :
    Calls Tryd.prog 113 #[.agg #[.int .i64 ext, .int .i32 nano, .string zone, .int .i64 off]] w fun e w' => e = .returned (.int .i64 S) ∧ Below w.heap.size w w' := by
  go_enter Tryd.func113, Tryd.ntmps113
  go_wp2
  go_ret
  exact ⟨ret_int (by omega), ((Below.refl w.heap.size w).alloc (Nat.le_refl _) _).alloc (by simp) _⟩
theorem ret_siu {a a' : ByteArray} {b c b' c' : Int} {k1 k2 : IntKind} (h1 : a = a') (h2 : b = b') (h3 : c = c') : Ending.returned (.tuple #[.string a, .int k1 b, .int k2 c]) = Ending.returned (.tuple #[.string a', .int k1 b', .int k2 c']) := by rw [h1, h2, h3]
/-- The time's own box. -/
def Box (W : World) (b : Nat) (ext nano off : Int) (zone : ByteArray) : Prop := b < W.heap.size ∧ W.cell? ⟨b, 0, none⟩ = some (.int .i64 ext) ∧ W.cell? ⟨b, 1, none⟩ = some (.int .i32 nano) ∧ W.cell? ⟨b, 2, none⟩ = some (.string zone) ∧ W.cell? ⟨b, 3, none⟩ = some (.int .i64 off)
theorem Box.new (w : World) (ext nano off : Int) (zone : ByteArray) (T : TypeId) : Box (w.alloc (.cells #[.int .i64 ext, .int .i32 nano, .string zone, .int .i64 off] T)) w.heap.size ext nano off zone :=
  ⟨by simp, (Blk.new w T _).cell 0, (Blk.new w T _).cell 1, (Blk.new w T _).cell 2, (Blk.new w T _).cell 3⟩
theorem Box.drew {W : World} {b : Nat} {ext nano off : Int} {zone : ByteArray} (h : Box W b ext nano off zone) : Box W.drew b ext nano off zone := h
theorem Box.below {W W' : World} {b B : Nat} {ext nano off : Int} {zone : ByteArray} (h : Box W b ext nano off zone) (k : Below B W W') (hB : b < B) : Box W' b ext nano off zone :=
  ⟨Nat.lt_of_lt_of_le h.1 k.size, by rw [k.cell (p := ⟨b, 0, none⟩) hB]; exact h.2.1, by rw [k.cell (p := ⟨b, 1, none⟩) hB]; exact h.2.2.1, by rw [k.cell (p := ⟨b, 2, none⟩) hB]; exact h.2.2.2.1, by rw [k.cell (p := ⟨b, 3, none⟩) hB]; exact h.2.2.2.2⟩
set_option maxRecDepth 100000 in
theorem locabs_at (ext nano off A : Int) (zone : ByteArray) (h0 : -9223372037 ≤ ext - 62135596800) (h1 : ext - 62135596800 ≤ 9223372037) (h2 : -50400 ≤ off) (h3 : off ≤ 50400) (hA : A = ext - 62135596800 + off + 9223372028741760000) (w : World) :
    Calls Tryd.prog 90 #[.agg #[.int .i64 ext, .int .i32 nano, .string zone, .int .i64 off]] w fun e w' => e = .returned (.tuple #[.string zone, .int .i64 off, .int .u64 A]) ∧ Below w.heap.size w w' := by
  obtain ⟨S, hS⟩ : ∃ S : Int, ext - 62135596800 = S := ⟨_, rfl⟩
  have hA1 := hA
  rw [hS] at hA
  have s0 : -9223372037 ≤ S := by omega
  have s1 : S ≤ 9223372037 := by omega
  have HA := Lib.hid (And.intro hA (And.intro hA1 (And.intro h0 (And.intro h1 hS))))
  clear hA hA1 h0 h1 hS
  go_enter Tryd.func90, Tryd.ntmps90
  go_wp2
  have hbox := Box.new w ext nano off zone 73
  have hbel := (Below.refl w.heap.size w).alloc (Nat.le_refl _) (.cells #[.int .i64 ext, .int .i32 nano, .string zone, .int .i64 off] 73)
  generalize w.alloc (.cells #[.int .i64 ext, .int .i32 nano, .string zone, .int .i64 off] 73) = w0 at *
  generalize hbw : w.heap.size = b at *
  obtain ⟨b0, c0, c1, c2, c3⟩ := hbox
  have HB := Lib.hid (And.intro hbel hbw)
  clear hbel hbw
  go_region_held3 (fun W => W.cell? ⟨b, 0, none⟩ = some (.int .i64 ext) ∧ W.cell? ⟨b, 1, none⟩ = some (.int .i32 nano) ∧ W.cell? ⟨b, 2, none⟩ = some (.string zone) ∧ W.cell? ⟨b, 3, none⟩ = some (.int .i64 off)) (first | exact ⟨d0, d1, d2, d3⟩ | exact ⟨c0, c1, c2, c3⟩)
    (first | (go_at_call 113; refine (unixsec_at ext nano off S zone HA.out.2.2.1 HA.out.2.2.2.1 HA.out.2.2.2.2 _).mono ?_; rintro e w1 ⟨rfl, hb⟩; obtain ⟨-, d0, d1, d2, d3⟩ := Box.below (show Box w0.drew b ext nano off zone from ⟨b0, c0, c1, c2, c3⟩) hb b0; have HB2 := Lib.hid hb; clear hb))
  go_wp2
  go_ret3
  refine ⟨ret_siu rfl rfl ?_, by rw [HB.out.2]; exact HB.out.1.drew.trans (HB2.out.mono (Nat.le_of_lt b0))⟩
  rw [IntKind.wrap_i64, IntKind.wrap_i64, IntKind.wrap_u64]
  have := HA.out.1
  omega
set_option maxRecDepth 100000 in
theorem days_at (A D : Int) (h0 : 0 ≤ A) (h1 : A ≤ 18446744073709551615) (hD : D = A / 86400) (w : World) :
    Calls Tryd.prog 91 #[.int .u64 A] w fun e w' => e = .returned (.int .u64 D) ∧ w' = w := by
  go_enter Tryd.func91, Tryd.ntmps91
  go_wp2
  go_ret
  exact ⟨ret_int (by omega), rfl⟩
set_option maxRecDepth 100000 in
theorem clock_at (A x y z : Int) (s : Nat) (h0 : 0 ≤ A) (h1 : A ≤ 18446744073709551615) (hs : A % 86400 = s) (hx : x = (s / 3600 : Nat)) (hy : y = (s / 60 % 60 : Nat)) (hz : z = (s % 60 : Nat)) (w : World) :
    Calls Tryd.prog 94 #[.int .u64 A] w fun e w' => e = .returned (.tuple #[.int .i64 x, .int .i64 y, .int .i64 z]) ∧ w' = w := by
  obtain ⟨Z, hZ⟩ : ∃ Z : Int, A % 86400 = Z := ⟨_, rfl⟩
  have z0 : 0 ≤ Z := by omega
  have z1 : Z ≤ 86399 := by omega
  have hZs : Z = (s : Int) := by omega
  have HZ := Lib.hid (And.intro hZs (And.intro hx (And.intro hy hz)))
  clear hs hx hy hz hZs
  go_enter Tryd.func94, Tryd.ntmps94
  go_wp2
  go_ret3
  obtain ⟨hZs, hx, hy, hz⟩ := HZ.out
  refine ⟨ret_three ?_ ?_ ?_, rfl⟩
  · omega
  · omega
  · omega
set_option maxRecDepth 100000 in
theorem nanosecond_at (ext nano off : Int) (zone : ByteArray) (h0 : 0 ≤ nano) (h1 : nano ≤ 999999999) (w : World) :
    Calls Tryd.prog 97 #[.agg #[.int .i64 ext, .int .i32 nano, .string zone, .int .i64 off]] w fun e w' => e = .returned (.int .i64 nano) ∧ Below w.heap.size w w' := by
  go_enter Tryd.func97, Tryd.ntmps97
  go_wp2
  go_ret
  exact ⟨rfl, ((Below.refl w.heap.size w).alloc (Nat.le_refl _) _).alloc (by simp) _⟩
end Go.Proofs.YtdbnconphcaclaaDoor
