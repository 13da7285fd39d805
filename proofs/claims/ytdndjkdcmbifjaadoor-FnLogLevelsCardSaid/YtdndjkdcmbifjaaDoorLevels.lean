/-
  LevelSampler.Sample and LLevelSample: a sampler for each of five levels. Conditions: as each theorem says.
-/
import Derived.Test.YtdndjkdcmbifjaaDoorSample
namespace Go.Proofs.YtdndjkdcmbifjaaDoor
open Go.RowKit
set_option linter.unusedVariables false

/-- The interface value of sampler j: nil where its n is 0. -/
def ival (ns : Nat → Int) (gs : Nat → Nat) (j : Nat) : Value := if ns j = 0 then .nilIface else .iface 46 (.pointer (some ⟨gs j, 0, none⟩))
/-- The first m samplers lie in blocks from B to below U, each behind the one before; sampler j has seen ks j events. -/
def Sams (w : World) (B U : Nat) (ns : Nat → Int) (gs ks : Nat → Nat) (m : Nat) : Prop :=
  ∀ j, j < m → 0 < ns j → B ≤ gs j ∧ gs j < U ∧ Blk w (gs j) 48 #[.int .u32 (ns j), .int .u32 (cnt (ns j) (ks j))] ∧ ∀ i, i < j → 0 < ns i → gs i < gs j
/-- What a sampler of n (0: none) says to its event q. -/
def ans (n : Int) (q : Nat) : Bool := if n = 0 then true else every n q
/-- The n of a level's sampler, 0 if it has none. -/
def eff (ns : Nat → Int) (l : Int) : Int := if -1 ≤ l ∧ l ≤ 3 then ns (l + 1).toNat else 0
def bump (ks : Nat → Nat) (l : Int) (j : Nat) : Nat := if (j : Int) = l + 1 then ks j + 1 else ks j

section
variable {w w' : World} {B U m : Nat} {ns : Nat → Int} {gs ks : Nat → Nat}
theorem Sams.kept (h : Sams w B U ns gs ks m) (hk : ∀ g, B ≤ g → g < U → w'.heap[g]? = w.heap[g]?) : Sams w' B U ns gs ks m := by
  intro j hj hp
  obtain ⟨h1, h2, h3, h4⟩ := h j hj hp
  exact ⟨h1, h2, (hk _ h1 h2).trans h3, h4⟩
theorem Sams.below (h : Sams w B U ns gs ks m) (hb : Below U w w') : Sams w' B U ns gs ks m := h.kept fun g _ hg => hb.block g hg
theorem Sams.hit {j : Nat} {l : Int} (h : Sams w B U ns gs ks m) (hj : j < m) (hl : l = (j : Int) - 1) (hp : 0 < ns j) (hb : Blk w' (gs j) 48 #[.int .u32 (ns j), .int .u32 (cnt (ns j) (ks j + 1))])
    (hg : w.grownBy w' (some (gs j))) : Sams w' B U ns gs (bump ks l) m := by
  intro i hi hpi
  obtain ⟨h1, h2, h3, h4⟩ := h i hi hpi
  refine ⟨h1, h2, ?_, h4⟩
  by_cases e : i = j
  · subst e
    simpa [bump, hl] using hb
  · have hne : gs i ≠ gs j := by
      rcases Nat.lt_or_gt_of_ne e with hlt | hgt
      · have := (h j hj hp).2.2.2 i hlt hpi; omega
      · have := h4 j hgt hp; omega
    have hk : bump ks l i = ks i := by unfold bump; rw [if_neg (by omega)]
    rw [hk]
    exact (hg.block (gs i) h3.lt (fun e => hne (by injection e))).trans h3
theorem Sams.miss {l : Int} (h : Sams w B U ns gs ks m) (hm : m ≤ 5) (he : eff ns l = 0) (hns : ∀ j, 0 ≤ ns j) : Sams w B U ns gs (bump ks l) m := by
  intro i hi hpi
  obtain ⟨h1, h2, h3, h4⟩ := h i hi hpi
  refine ⟨h1, h2, ?_, h4⟩
  have hk : bump ks l i = ks i := by
    unfold bump
    by_cases e : (i : Int) = l + 1
    · exfalso
      unfold eff at he
      rw [if_pos (by omega)] at he
      have : (l + 1).toNat = i := by omega
      rw [this] at he
      omega
    · rw [if_neg e]
  rw [hk]; exact h3
end

def LSret (ns : Nat → Int) (gs ks : Nat → Nat) (w : World) (B U : Nat) (l : Int) (e : Ending) (w' : World) : Prop :=
  e = .returned (.bool (ans (eff ns l) (if -1 ≤ l ∧ l ≤ 3 then ks (l + 1).toNat else 0))) ∧ Sams w' B U ns gs (bump ks l) 5 ∧ ∃ row, w.grownBy w' row ∧ ∀ g, row = some g → B ≤ g ∧ g < U

theorem ls_miss {ns : Nat → Int} {gs ks : Nat → Nat} {w : World} {B U : Nat} {l : Int} (he : eff ns l = 0) (hs : Sams w B U ns gs ks 5) (hU : U ≤ w.heap.size) (h0 : ∀ j, 0 ≤ ns j) (o : Obj) :
    LSret ns gs ks w B U l (.returned (.bool true)) (w.alloc o) :=
  ⟨ret_bool (by simp [ans, he]), (hs.miss (Nat.le_refl 5) he h0).kept fun g _ hg => Below.heap_alloc w o g (by omega), none, World.grownBy_alloc w o none, fun g hg => by cases hg⟩

theorem ls_hit {ns : Nat → Int} {gs ks : Nat → Nat} {w w1 : World} {B U : Nat} {l : Int} {o : Obj} (j : Nat) (hj : j < 5) (hl : l = (j : Int) - 1) (hp : 0 < ns j) (hs : Sams w B U ns gs ks 5) (hU : U ≤ w.heap.size)
    (hb : Blk w1 (gs j) 48 #[.int .u32 (ns j), .int .u32 (cnt (ns j) (ks j + 1))]) (hg : (w.alloc o).grownBy w1 (some (gs j))) : LSret ns gs ks w B U l (.returned (.bool (every (ns j) (ks j)))) w1 := by
  have hsz := hg.size
  have hsz0 : (w.alloc o).heap.size = w.heap.size + 1 := by simp
  have hgw : w.grownBy w1 (some (gs j)) := ⟨hg.os, hg.tape, hg.output, (by omega), fun k hk hne => (hg.block k (by omega) hne).trans (Below.heap_alloc w o k hk)⟩
  refine ⟨ret_bool ?_, hs.hit hj hl hp hb hgw, some (gs j), hgw, fun g e => ?_⟩
  · have e1 : (l + 1).toNat = j := by omega
    have c : -1 ≤ l ∧ l ≤ 3 := by omega
    have ef : eff ns l = ns j := by unfold eff; rw [if_pos c, e1]
    rw [ef, if_pos c, e1]
    unfold ans
    rw [if_neg (by omega)]
  · injection e with e
    subst e
    exact ⟨(hs j hj hp).1, (hs j hj hp).2.1⟩

theorem method_sample (a : Addr) (w : World) : (method 208 46 (.pointer (some a)) "Sample").run Tryd.prog w = .ok (15, .pointer (some a)) w := by kernel_rfl

theorem ls_0 (ns : Nat → Int) (gs ks : Nat → Nat) (w : World) (B U : Nat) (hs : Sams w B U ns gs ks 5) (hU : U ≤ w.heap.size) (h0 : ∀ j, 0 ≤ ns j) (h1 : ∀ j, ns j ≤ 1000) (hk : ∀ j, ks j ≤ 100000) :
    Calls Tryd.prog 16 #[.agg #[ival ns gs 0, ival ns gs 1, ival ns gs 2, ival ns gs 3, ival ns gs 4], .int .i8 (-1)] w (LSret ns gs ks w B U (-1)) := by
  by_cases hz : ns 0 = 0
  · have e : ival ns gs 0 = .nilIface := by simp [ival, hz]
    rw [e]
    have HH := Lib.hid (And.intro hz (And.intro hs (And.intro h0 h1)))
    clear hz hs h0 h1 hk e
    generalize ival ns gs 1 = v1
    generalize ival ns gs 2 = v2
    generalize ival ns gs 3 = v3
    generalize ival ns gs 4 = v4
    go_enter Tryd.func16, Tryd.ntmps16
    go_wp2
    go_ret
    exact ls_miss (by simp [eff, HH.out.1]) HH.out.2.1 hU HH.out.2.2.1 _
  · have e : ival ns gs 0 = .iface 46 (.pointer (some ⟨gs 0, 0, none⟩)) := by simp [ival, hz]
    rw [e]
    have hp : 0 < ns 0 := by have := h0 0; omega
    have hkj := hk 0
    have hb1 := h1 0
    obtain ⟨q1, q2, hblk, _⟩ := hs 0 (by decide) hp
    have HH := Lib.hid (And.intro hz (And.intro hs (And.intro h0 h1)))
    clear hz hs h0 h1 hk e
    generalize ival ns gs 1 = v1
    generalize ival ns gs 2 = v2
    generalize ival ns gs 3 = v3
    generalize ival ns gs 4 = v4
    go_enter Tryd.func16, Tryd.ntmps16
    have hmeth := method_sample ⟨gs 0, 0, none⟩
    go_wp2_with (go_at_call 15; refine (sample_any _ _ _ _ _ (hblk.alloc _) (by omega) (by omega) (by omega)).mono ?_; rintro e w1 ⟨rfl, hb1, hg1⟩)
    go_ret
    exact ls_hit 0 (by decide) (by rfl) hp HH.out.2.1 hU hb1 hg1

theorem ls_1 (ns : Nat → Int) (gs ks : Nat → Nat) (w : World) (B U : Nat) (hs : Sams w B U ns gs ks 5) (hU : U ≤ w.heap.size) (h0 : ∀ j, 0 ≤ ns j) (h1 : ∀ j, ns j ≤ 1000) (hk : ∀ j, ks j ≤ 100000) :
    Calls Tryd.prog 16 #[.agg #[ival ns gs 0, ival ns gs 1, ival ns gs 2, ival ns gs 3, ival ns gs 4], .int .i8 0] w (LSret ns gs ks w B U 0) := by
  by_cases hz : ns 1 = 0
  · have e : ival ns gs 1 = .nilIface := by simp [ival, hz]
    rw [e]
    have HH := Lib.hid (And.intro hz (And.intro hs (And.intro h0 h1)))
    clear hz hs h0 h1 hk e
    generalize ival ns gs 0 = v0
    generalize ival ns gs 2 = v2
    generalize ival ns gs 3 = v3
    generalize ival ns gs 4 = v4
    go_enter Tryd.func16, Tryd.ntmps16
    go_wp2
    go_ret
    exact ls_miss (by simp [eff, HH.out.1]) HH.out.2.1 hU HH.out.2.2.1 _
  · have e : ival ns gs 1 = .iface 46 (.pointer (some ⟨gs 1, 0, none⟩)) := by simp [ival, hz]
    rw [e]
    have hp : 0 < ns 1 := by have := h0 1; omega
    have hkj := hk 1
    have hb1 := h1 1
    obtain ⟨q1, q2, hblk, _⟩ := hs 1 (by decide) hp
    have HH := Lib.hid (And.intro hz (And.intro hs (And.intro h0 h1)))
    clear hz hs h0 h1 hk e
    generalize ival ns gs 0 = v0
    generalize ival ns gs 2 = v2
    generalize ival ns gs 3 = v3
    generalize ival ns gs 4 = v4
    go_enter Tryd.func16, Tryd.ntmps16
    have hmeth := method_sample ⟨gs 1, 0, none⟩
    go_wp2_with (go_at_call 15; refine (sample_any _ _ _ _ _ (hblk.alloc _) (by omega) (by omega) (by omega)).mono ?_; rintro e w1 ⟨rfl, hb1, hg1⟩)
    go_ret
    exact ls_hit 1 (by decide) (by rfl) hp HH.out.2.1 hU hb1 hg1

theorem ls_2 (ns : Nat → Int) (gs ks : Nat → Nat) (w : World) (B U : Nat) (hs : Sams w B U ns gs ks 5) (hU : U ≤ w.heap.size) (h0 : ∀ j, 0 ≤ ns j) (h1 : ∀ j, ns j ≤ 1000) (hk : ∀ j, ks j ≤ 100000) :
    Calls Tryd.prog 16 #[.agg #[ival ns gs 0, ival ns gs 1, ival ns gs 2, ival ns gs 3, ival ns gs 4], .int .i8 1] w (LSret ns gs ks w B U 1) := by
  by_cases hz : ns 2 = 0
  · have e : ival ns gs 2 = .nilIface := by simp [ival, hz]
    rw [e]
    have HH := Lib.hid (And.intro hz (And.intro hs (And.intro h0 h1)))
    clear hz hs h0 h1 hk e
    generalize ival ns gs 0 = v0
    generalize ival ns gs 1 = v1
    generalize ival ns gs 3 = v3
    generalize ival ns gs 4 = v4
    go_enter Tryd.func16, Tryd.ntmps16
    go_wp2
    go_ret
    exact ls_miss (by simp [eff, HH.out.1]) HH.out.2.1 hU HH.out.2.2.1 _
  · have e : ival ns gs 2 = .iface 46 (.pointer (some ⟨gs 2, 0, none⟩)) := by simp [ival, hz]
    rw [e]
    have hp : 0 < ns 2 := by have := h0 2; omega
    have hkj := hk 2
    have hb1 := h1 2
    obtain ⟨q1, q2, hblk, _⟩ := hs 2 (by decide) hp
    have HH := Lib.hid (And.intro hz (And.intro hs (And.intro h0 h1)))
    clear hz hs h0 h1 hk e
    generalize ival ns gs 0 = v0
    generalize ival ns gs 1 = v1
    generalize ival ns gs 3 = v3
    generalize ival ns gs 4 = v4
    go_enter Tryd.func16, Tryd.ntmps16
    have hmeth := method_sample ⟨gs 2, 0, none⟩
    go_wp2_with (go_at_call 15; refine (sample_any _ _ _ _ _ (hblk.alloc _) (by omega) (by omega) (by omega)).mono ?_; rintro e w1 ⟨rfl, hb1, hg1⟩)
    go_ret
    exact ls_hit 2 (by decide) (by rfl) hp HH.out.2.1 hU hb1 hg1

theorem ls_3 (ns : Nat → Int) (gs ks : Nat → Nat) (w : World) (B U : Nat) (hs : Sams w B U ns gs ks 5) (hU : U ≤ w.heap.size) (h0 : ∀ j, 0 ≤ ns j) (h1 : ∀ j, ns j ≤ 1000) (hk : ∀ j, ks j ≤ 100000) :
    Calls Tryd.prog 16 #[.agg #[ival ns gs 0, ival ns gs 1, ival ns gs 2, ival ns gs 3, ival ns gs 4], .int .i8 2] w (LSret ns gs ks w B U 2) := by
  by_cases hz : ns 3 = 0
  · have e : ival ns gs 3 = .nilIface := by simp [ival, hz]
    rw [e]
    have HH := Lib.hid (And.intro hz (And.intro hs (And.intro h0 h1)))
    clear hz hs h0 h1 hk e
    generalize ival ns gs 0 = v0
    generalize ival ns gs 1 = v1
    generalize ival ns gs 2 = v2
    generalize ival ns gs 4 = v4
    go_enter Tryd.func16, Tryd.ntmps16
    go_wp2
    go_ret
    exact ls_miss (by simp [eff, HH.out.1]) HH.out.2.1 hU HH.out.2.2.1 _
  · have e : ival ns gs 3 = .iface 46 (.pointer (some ⟨gs 3, 0, none⟩)) := by simp [ival, hz]
    rw [e]
    have hp : 0 < ns 3 := by have := h0 3; omega
    have hkj := hk 3
    have hb1 := h1 3
    obtain ⟨q1, q2, hblk, _⟩ := hs 3 (by decide) hp
    have HH := Lib.hid (And.intro hz (And.intro hs (And.intro h0 h1)))
    clear hz hs h0 h1 hk e
    generalize ival ns gs 0 = v0
    generalize ival ns gs 1 = v1
    generalize ival ns gs 2 = v2
    generalize ival ns gs 4 = v4
    go_enter Tryd.func16, Tryd.ntmps16
    have hmeth := method_sample ⟨gs 3, 0, none⟩
    go_wp2_with (go_at_call 15; refine (sample_any _ _ _ _ _ (hblk.alloc _) (by omega) (by omega) (by omega)).mono ?_; rintro e w1 ⟨rfl, hb1, hg1⟩)
    go_ret
    exact ls_hit 3 (by decide) (by rfl) hp HH.out.2.1 hU hb1 hg1

theorem ls_4 (ns : Nat → Int) (gs ks : Nat → Nat) (w : World) (B U : Nat) (hs : Sams w B U ns gs ks 5) (hU : U ≤ w.heap.size) (h0 : ∀ j, 0 ≤ ns j) (h1 : ∀ j, ns j ≤ 1000) (hk : ∀ j, ks j ≤ 100000) :
    Calls Tryd.prog 16 #[.agg #[ival ns gs 0, ival ns gs 1, ival ns gs 2, ival ns gs 3, ival ns gs 4], .int .i8 3] w (LSret ns gs ks w B U 3) := by
  by_cases hz : ns 4 = 0
  · have e : ival ns gs 4 = .nilIface := by simp [ival, hz]
    rw [e]
    have HH := Lib.hid (And.intro hz (And.intro hs (And.intro h0 h1)))
    clear hz hs h0 h1 hk e
    generalize ival ns gs 0 = v0
    generalize ival ns gs 1 = v1
    generalize ival ns gs 2 = v2
    generalize ival ns gs 3 = v3
    go_enter Tryd.func16, Tryd.ntmps16
    go_wp2
    go_ret
    exact ls_miss (by simp [eff, HH.out.1]) HH.out.2.1 hU HH.out.2.2.1 _
  · have e : ival ns gs 4 = .iface 46 (.pointer (some ⟨gs 4, 0, none⟩)) := by simp [ival, hz]
    rw [e]
    have hp : 0 < ns 4 := by have := h0 4; omega
    have hkj := hk 4
    have hb1 := h1 4
    obtain ⟨q1, q2, hblk, _⟩ := hs 4 (by decide) hp
    have HH := Lib.hid (And.intro hz (And.intro hs (And.intro h0 h1)))
    clear hz hs h0 h1 hk e
    generalize ival ns gs 0 = v0
    generalize ival ns gs 1 = v1
    generalize ival ns gs 2 = v2
    generalize ival ns gs 3 = v3
    go_enter Tryd.func16, Tryd.ntmps16
    have hmeth := method_sample ⟨gs 4, 0, none⟩
    go_wp2_with (go_at_call 15; refine (sample_any _ _ _ _ _ (hblk.alloc _) (by omega) (by omega) (by omega)).mono ?_; rintro e w1 ⟨rfl, hb1, hg1⟩)
    go_ret
    exact ls_hit 4 (by decide) (by rfl) hp HH.out.2.1 hU hb1 hg1

theorem ls_sample (ns : Nat → Int) (gs ks : Nat → Nat) (w : World) (B U : Nat) (l : Int) (hl : -128 ≤ l ∧ l ≤ 127) (hs : Sams w B U ns gs ks 5) (hU : U ≤ w.heap.size) (h0 : ∀ j, 0 ≤ ns j) (h1 : ∀ j, ns j ≤ 1000) (hk : ∀ j, ks j ≤ 100000) :
    Calls Tryd.prog 16 #[.agg #[ival ns gs 0, ival ns gs 1, ival ns gs 2, ival ns gs 3, ival ns gs 4], .int .i8 l] w (LSret ns gs ks w B U l) := by
  by_cases hl3 : -1 ≤ l ∧ l ≤ 3
  · have hl5 : l = -1 ∨ l = 0 ∨ l = 1 ∨ l = 2 ∨ l = 3 := by omega
    rcases hl5 with rfl | rfl | rfl | rfl | rfl
    · exact ls_0 ns gs ks w B U hs hU h0 h1 hk
    · exact ls_1 ns gs ks w B U hs hU h0 h1 hk
    · exact ls_2 ns gs ks w B U hs hU h0 h1 hk
    · exact ls_3 ns gs ks w B U hs hU h0 h1 hk
    · exact ls_4 ns gs ks w B U hs hU h0 h1 hk
  · have g1 : (l == -1) = false := by simp; omega
    have g2 : (l == 0) = false := by simp; omega
    have g3 : (l == 1) = false := by simp; omega
    have g4 : (l == 2) = false := by simp; omega
    have g5 : (l == 3) = false := by simp; omega
    have HH := Lib.hid (And.intro hl3 (And.intro hs (And.intro h0 h1)))
    clear hl3 hs h0 h1 hk
    generalize ival ns gs 0 = v0
    generalize ival ns gs 1 = v1
    generalize ival ns gs 2 = v2
    generalize ival ns gs 3 = v3
    generalize ival ns gs 4 = v4
    go_enter Tryd.func16, Tryd.ntmps16
    go_wp2
    go_ret
    exact ls_miss (by simp [eff, HH.out.1]) HH.out.2.1 hU HH.out.2.2.1 _
end Go.Proofs.YtdndjkdcmbifjaaDoor
