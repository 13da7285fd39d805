/-
  LLevelSample: each level's events are sampled for themselves. Conditions: as each theorem says.
-/
import Derived.Test.YtdndjkdcmbifjaaDoorLevels
namespace Go.Proofs.YtdndjkdcmbifjaaDoor
open Go.RowKit
set_option linter.unusedVariables false

/-- How many of the first i levels are l. -/
def occ (lv : List Int) (i : Nat) (l : Int) : Nat := (lv.take i).count l
theorem occ_succ (lv : List Int) (i : Nat) (l : Int) (h : i < lv.length) : occ lv (i + 1) l = occ lv i l + if lv[i] = l then 1 else 0 := by
  unfold occ
  rw [List.take_succ_eq_append_getElem h, List.count_append, List.count_singleton]
  simp
theorem occ_le (lv : List Int) (i : Nat) (l : Int) : occ lv i l ≤ i := by
  unfold occ
  exact Nat.le_trans List.count_le_length (List.length_take_le _ _)
/-- The answers to the first i events. -/
def got (ns : Nat → Int) (lv : List Int) (i : Nat) : List Value := (List.range i).map fun q => .bool (ans (eff ns (lv.getD q 0)) (occ lv q (lv.getD q 0)))
theorem got_succ (ns : Nat → Int) (lv : List Int) (i : Nat) : got ns lv (i + 1) = got ns lv i ++ [.bool (ans (eff ns (lv.getD i 0)) (occ lv i (lv.getD i 0)))] := by
  simp [got, List.range_succ]

def row5 (ns : Nat → Int) (gs : Nat → Nat) (k : Nat) : Array Value :=
  #[if 0 < k then ival ns gs 0 else .nilIface, if 1 < k then ival ns gs 1 else .nilIface, if 2 < k then ival ns gs 2 else .nilIface, if 3 < k then ival ns gs 3 else .nilIface, if 4 < k then ival ns gs 4 else .nilIface]

theorem ival_cells (ns : Nat → Int) (gs : Nat → Nat) (j : Nat) : (ival ns gs j).cells = #[ival ns gs j] := by unfold ival; split <;> rfl
theorem ival_one (ns : Nat → Int) (gs : Nat → Nat) (j : Nat) : (ival ns gs j).oneCell' = true := by unfold ival; split <;> rfl
def upd (gs : Nat → Nat) (k g : Nat) (j : Nat) : Nat := if j = k then g else gs j
theorem row5_miss (ns : Nat → Int) (gs : Nat → Nat) (k : Nat) (hk : k < 5) (h : ns k = 0) : row5 ns gs k = row5 ns gs (k + 1) := by
  have h5 : k = 0 ∨ k = 1 ∨ k = 2 ∨ k = 3 ∨ k = 4 := by omega
  rcases h5 with rfl | rfl | rfl | rfl | rfl <;> simp [row5, ival, h]
theorem row5_hit (ns : Nat → Int) (gs : Nat → Nat) (k g : Nat) (hk : k < 5) (h : ns k ≠ 0) :
    (row5 ns gs k).setIfInBounds k (.iface 46 (.pointer (some ⟨g, 0, none⟩))) = row5 ns (upd gs k g) (k + 1) := by
  have h5 : k = 0 ∨ k = 1 ∨ k = 2 ∨ k = 3 ∨ k = 4 := by omega
  rcases h5 with rfl | rfl | rfl | rfl | rfl <;> simp [row5, ival, h, upd]
theorem sams_miss {w : World} {B U k : Nat} {ns : Nat → Int} {gs ks : Nat → Nat} (hs : Sams w B U ns gs ks k) (h : ns k = 0) : Sams w B U ns gs ks (k + 1) := by
  intro j hj hp
  by_cases e : j = k
  · subst e; omega
  · exact hs j (by omega) hp
theorem sams_hit {w w' : World} {B k : Nat} {ns : Nat → Int} {gs : Nat → Nat} (hs : Sams w B w.heap.size ns gs (fun _ => 0) k) (hB : B ≤ w.heap.size) (hsz : w.heap.size < w'.heap.size) (hk : ∀ g, B ≤ g → g < w.heap.size → w'.heap[g]? = w.heap[g]?)
    (hb : Blk w' w.heap.size 48 #[.int .u32 (ns k), .int .u32 0]) : Sams w' B w'.heap.size ns (upd gs k w.heap.size) (fun _ => 0) (k + 1) := by
  intro j hj hp
  by_cases e : j = k
  · subst e
    refine ⟨by simp [upd, hB], by simp [upd, hsz], by simpa [upd, cnt] using hb, fun i hi hpi => ?_⟩
    have := hs i hi hpi
    have hne : i ≠ j := by omega
    simp only [upd, if_neg hne, if_true]
    omega
  · obtain ⟨q1, q2, q3, q4⟩ := hs j (by omega) hp
    have hu : upd gs k w.heap.size j = gs j := by simp [upd, e]
    rw [hu]
    refine ⟨q1, by omega, (hk _ q1 q2).trans q3, fun i hi hpi => ?_⟩
    have hne : i ≠ k := by omega
    simp only [upd, if_neg hne]
    exact q4 i hi hpi
/-- Behind the first loop's round k: block L holds the samplers' values. -/
def Made (w : World) (L : Nat) (ns : Nat → Int) (k : Nat) (wr : World) : Prop :=
  ∃ gs, Blk wr L 52 (row5 ns gs k) ∧ Sams wr (L + 1) wr.heap.size ns gs (fun _ => 0) k ∧ Below L w wr
theorem made_miss {w wr : World} {L k : Nat} {ns : Nat → Int} (h : Made w L ns k wr) (hk : k < 5) (hz : ns k = 0) : Made w L ns (k + 1) wr := by
  obtain ⟨gs, h1, h2, h3⟩ := h
  exact ⟨gs, by rw [← row5_miss ns gs k hk hz]; exact h1, sams_miss h2 hz, h3⟩
theorem made_hit {w wr : World} {L k : Nat} {ns : Nat → Int} (h : Made w L ns k wr) (hk : k < 5) (hz : ns k ≠ 0) :
    Made w L ns (k + 1) ((wr.setCell ⟨L, k, none⟩ (.iface 46 (.pointer (some ⟨wr.heap.size, 0, none⟩)))).alloc (.cells #[.int .u32 (ns k), .int .u32 0] 48)) := by
  obtain ⟨gs, h1, h2, h3⟩ := h
  have hL := h1.lt
  have hs : (wr.setCell ⟨L, k, none⟩ (.iface 46 (.pointer (some ⟨wr.heap.size, 0, none⟩)))).heap.size = wr.heap.size := by simp [World.setCell]
  refine ⟨upd gs k wr.heap.size, ?_, sams_hit h2 (by omega) (by simp [World.setCell]) (fun g hg hlt => ?_) ?_, ?_⟩
  · rw [← row5_hit ns gs k wr.heap.size hk hz]
    exact (h1.set_ k _).alloc _
  · rw [Below.heap_alloc _ _ g (by omega), Below.heap_setCell _ _ _ _ (by show g ≠ L; omega)]
  · have := Blk.new (wr.setCell ⟨L, k, none⟩ (.iface 46 (.pointer (some ⟨wr.heap.size, 0, none⟩)))) 48 #[.int .u32 (ns k), .int .u32 0]
    rwa [hs] at this
  · exact (h3.setCell (by show L ≤ L; omega) _).alloc (by omega) _

theorem own_ne {w : World} {base lo U : Nat} {e : TypeId} {size n : Nat} {v : Value} {xs : List Value} {row : Option Nat} (h : w.ownsRow (base + 1) e size v n xs) (hr : ∀ g, row = some g → lo ≤ g ∧ g < U) (hU : U ≤ base) : v.ownBlock = none ∨ v.ownBlock ≠ row := by
  cases hv : v.ownBlock with
  | none => exact .inl rfl
  | some g =>
    refine .inr (fun e => ?_)
    have h1 := h.lt g hv
    have h2 := hr g e.symm
    omega
def kocc (lv : List Int) (k : Nat) (j : Nat) : Nat := occ lv k ((j : Int) - 1)
theorem kocc_zero (lv : List Int) : kocc lv 0 = fun _ => 0 := by funext j; simp [kocc, occ]
theorem kocc_bump (lv : List Int) (k : Nat) (h : k < lv.length) : bump (kocc lv k) lv[k] = kocc lv (k + 1) := by
  funext j
  unfold bump kocc
  rw [occ_succ lv k _ h]
  by_cases e : (j : Int) = lv[k] + 1
  · rw [if_pos e, if_pos (by omega)]
  · rw [if_neg e, if_neg (by omega)]; rfl
theorem ans_kocc (ns : Nat → Int) (lv : List Int) (k : Nat) (l : Int) : ans (eff ns l) (if -1 ≤ l ∧ l ≤ 3 then kocc lv k (l + 1).toNat else 0) = ans (eff ns l) (occ lv k l) := by
  by_cases h : -1 ≤ l ∧ l ≤ 3
  · rw [if_pos h]
    unfold kocc
    have : (((l + 1).toNat : Nat) : Int) - 1 = l := by omega
    rw [this]
  · have : eff ns l = 0 := by unfold eff; rw [if_neg h]
    rw [this]
    simp [ans]

def LOret (ns : Nat → Int) (gs : Nat → Nat) (lv : List Int) (k : Nat) (w : World) (B U : Nat) (l : Int) (e : Ending) (w' : World) : Prop :=
  e = .returned (.bool (ans (eff ns l) (occ lv k l))) ∧ Sams w' B U ns gs (kocc lv (k + 1)) 5 ∧ ∃ row, w.grownBy w' row ∧ ∀ g, row = some g → B ≤ g ∧ g < U

theorem ls_occ (ns : Nat → Int) (gs : Nat → Nat) (lv : List Int) (k : Nat) (w : World) (B U : Nat) (l : Int) (hk : k < lv.length) (hl : lv[k] = l) (hl1 : -128 ≤ l ∧ l ≤ 127) (hs : Sams w B U ns gs (kocc lv k) 5) (hU : U ≤ w.heap.size) (h0 : ∀ j, 0 ≤ ns j) (h1 : ∀ j, ns j ≤ 1000) (hk1 : k ≤ 100000) :
    Calls Tryd.prog 16 #[.agg #[ival ns gs 0, ival ns gs 1, ival ns gs 2, ival ns gs 3, ival ns gs 4], .int .i8 l] w (LOret ns gs lv k w B U l) :=
  (ls_sample ns gs (kocc lv k) w B U l hl1 hs hU h0 h1 (fun j => Nat.le_trans (occ_le lv k _) hk1)).mono fun e w' ⟨he, hsm, hrow⟩ => by
    subst hl
    rw [ans_kocc] at he
    rw [kocc_bump lv k hk] at hsm
    exact ⟨he, hsm, hrow⟩

set_option maxHeartbeats 4000000 in
theorem llevel_sample (ns : Nat → Int) (A : Option Addr) (m c : Nat) (lv : List Int) (w : World) (h0 : ∀ j, 0 ≤ ns j) (h1 : ∀ j, ns j ≤ 1000) (hr : Reads w w.heap.size 1 A m (lv.map (.int .i64))) (hm : m ≤ 65535) (hlv : ∀ x ∈ lv, -1 ≤ x ∧ x ≤ 6) :
    Calls Tryd.prog 12 #[.agg #[.int .u32 (ns 0), .int .u32 (ns 1), .int .u32 (ns 2), .int .u32 (ns 3), .int .u32 (ns 4)], .slice A m c] w (OwnBools w (got ns lv m) m) := by
  obtain ⟨i0, hi, hz0, hz1, hz2⟩ := info_parts bool_info
  have HH := Lib.hid (And.intro h0 (And.intro h1 (And.intro hr hlv)))
  clear h0 h1 hr hlv
  go_enter Tryd.func12, Tryd.ntmps12
  go_wp2_with fail
  obtain ⟨w1, hw1⟩ : ∃ w1, w1 = w.alloc (.cells #[.int .u32 (ns 0), .int .u32 (ns 1), .int .u32 (ns 2), .int .u32 (ns 3), .int .u32 (ns 4)] 35) := ⟨_, rfl⟩
  have hs1 : w1.heap.size = w.heap.size + 1 := by rw [hw1]; simp
  have HW := Lib.hid (And.intro hw1 hs1)
  clear hw1 hs1
  go_loopw [13] (fun i wr => ∃ k : Nat, k ≤ 5 ∧ i = .int .i64 k ∧ Made w1 (w.heap.size + 1) ns k wr) (fun i _ => 5 - (intOf i).toNat)
  case atStart =>
    refine ⟨0, by omega, rfl, fun _ => 0, ?_, fun j hj => by omega, ?_⟩
    · have := Blk.new (w.alloc (.cells #[.int .u32 (ns 0), .int .u32 (ns 1), .int .u32 (ns 2), .int .u32 (ns 3), .int .u32 (ns 4)] 35)) 52 (row5 ns (fun _ => 0) 0)
      simpa [row5] using this
    · rw [← HW.out.1, ← HW.out.2]
      exact (Below.refl _ _).alloc (Nat.le_refl _) _
  case round =>
    obtain ⟨k, hk, rfl, hmade⟩ := hrel
    have h6 : k = 0 ∨ k = 1 ∨ k = 2 ∨ k = 3 ∨ k = 4 ∨ k = 5 := by omega
    rcases h6 with rfl | rfl | rfl | rfl | rfl | rfl
    · have ix : ∀ w, (Instr.index 35 (.agg #[.int .u32 (ns 0), .int .u32 (ns 1), .int .u32 (ns 2), .int .u32 (ns 3), .int .u32 (ns 4)]) (.int .i64 0)).run Tryd.prog w = .ok (.int .u32 (ns 0)) w := fun _ => by kernel_rfl
      by_cases hz : ns 0 = 0
      · have hz' : ¬ 0 < ns 0 := by omega
        have HM := Lib.hid (made_miss hmade (by decide) hz)
        clear hz hmade
        go_wp2
        go_roundw
        case rel => exact ⟨1, by omega, by go_num, HM.out⟩
        case measure => simp [intOf]
      · have hz' : 0 < ns 0 := by have := HH.out.1 0; omega
        have HM := Lib.hid (made_hit hmade (by decide) hz)
        obtain ⟨gs, hblk, _, hbel⟩ := hmade
        have cc := hblk.cell 0
        have cf := hblk.frozen 0
        have hL := hblk.lt
        clear hz
        go_wp2
        go_roundw
        case rel => exact ⟨1, by omega, by go_num, HM.out⟩
        case measure => simp [intOf]
    · have ix : ∀ w, (Instr.index 35 (.agg #[.int .u32 (ns 0), .int .u32 (ns 1), .int .u32 (ns 2), .int .u32 (ns 3), .int .u32 (ns 4)]) (.int .i64 1)).run Tryd.prog w = .ok (.int .u32 (ns 1)) w := fun _ => by kernel_rfl
      by_cases hz : ns 1 = 0
      · have hz' : ¬ 0 < ns 1 := by omega
        have HM := Lib.hid (made_miss hmade (by decide) hz)
        clear hz hmade
        go_wp2
        go_roundw
        case rel => exact ⟨2, by omega, by go_num, HM.out⟩
        case measure => simp [intOf]
      · have hz' : 0 < ns 1 := by have := HH.out.1 1; omega
        have HM := Lib.hid (made_hit hmade (by decide) hz)
        obtain ⟨gs, hblk, _, hbel⟩ := hmade
        have cc := hblk.cell 1
        have cf := hblk.frozen 1
        have hL := hblk.lt
        clear hz
        go_wp2
        go_roundw
        case rel => exact ⟨2, by omega, by go_num, HM.out⟩
        case measure => simp [intOf]
    · have ix : ∀ w, (Instr.index 35 (.agg #[.int .u32 (ns 0), .int .u32 (ns 1), .int .u32 (ns 2), .int .u32 (ns 3), .int .u32 (ns 4)]) (.int .i64 2)).run Tryd.prog w = .ok (.int .u32 (ns 2)) w := fun _ => by kernel_rfl
      by_cases hz : ns 2 = 0
      · have hz' : ¬ 0 < ns 2 := by omega
        have HM := Lib.hid (made_miss hmade (by decide) hz)
        clear hz hmade
        go_wp2
        go_roundw
        case rel => exact ⟨3, by omega, by go_num, HM.out⟩
        case measure => simp [intOf]
      · have hz' : 0 < ns 2 := by have := HH.out.1 2; omega
        have HM := Lib.hid (made_hit hmade (by decide) hz)
        obtain ⟨gs, hblk, _, hbel⟩ := hmade
        have cc := hblk.cell 2
        have cf := hblk.frozen 2
        have hL := hblk.lt
        clear hz
        go_wp2
        go_roundw
        case rel => exact ⟨3, by omega, by go_num, HM.out⟩
        case measure => simp [intOf]
    · have ix : ∀ w, (Instr.index 35 (.agg #[.int .u32 (ns 0), .int .u32 (ns 1), .int .u32 (ns 2), .int .u32 (ns 3), .int .u32 (ns 4)]) (.int .i64 3)).run Tryd.prog w = .ok (.int .u32 (ns 3)) w := fun _ => by kernel_rfl
      by_cases hz : ns 3 = 0
      · have hz' : ¬ 0 < ns 3 := by omega
        have HM := Lib.hid (made_miss hmade (by decide) hz)
        clear hz hmade
        go_wp2
        go_roundw
        case rel => exact ⟨4, by omega, by go_num, HM.out⟩
        case measure => simp [intOf]
      · have hz' : 0 < ns 3 := by have := HH.out.1 3; omega
        have HM := Lib.hid (made_hit hmade (by decide) hz)
        obtain ⟨gs, hblk, _, hbel⟩ := hmade
        have cc := hblk.cell 3
        have cf := hblk.frozen 3
        have hL := hblk.lt
        clear hz
        go_wp2
        go_roundw
        case rel => exact ⟨4, by omega, by go_num, HM.out⟩
        case measure => simp [intOf]
    · have ix : ∀ w, (Instr.index 35 (.agg #[.int .u32 (ns 0), .int .u32 (ns 1), .int .u32 (ns 2), .int .u32 (ns 3), .int .u32 (ns 4)]) (.int .i64 4)).run Tryd.prog w = .ok (.int .u32 (ns 4)) w := fun _ => by kernel_rfl
      by_cases hz : ns 4 = 0
      · have hz' : ¬ 0 < ns 4 := by omega
        have HM := Lib.hid (made_miss hmade (by decide) hz)
        clear hz hmade
        go_wp2
        go_roundw
        case rel => exact ⟨5, by omega, by go_num, HM.out⟩
        case measure => simp [intOf]
      · have hz' : 0 < ns 4 := by have := HH.out.1 4; omega
        have HM := Lib.hid (made_hit hmade (by decide) hz)
        obtain ⟨gs, hblk, _, hbel⟩ := hmade
        have cc := hblk.cell 4
        have cf := hblk.frozen 4
        have hL := hblk.lt
        clear hz
        go_wp2
        go_roundw
        case rel => exact ⟨5, by omega, by go_num, HM.out⟩
        case measure => simp [intOf]
    · rw [show ((5 : Nat) : Int) = (5 : Int) from rfl]
      obtain ⟨gs, hblk, hsams, hbel⟩ := hmade
      have c0 : wr.cell? ⟨w.heap.size + 1, 0, none⟩ = some (ival ns gs 0) := by rw [hblk.cell]; rfl
      have c1 : wr.cell? ⟨w.heap.size + 1, 1, none⟩ = some (ival ns gs 1) := by rw [hblk.cell]; rfl
      have c2 : wr.cell? ⟨w.heap.size + 1, 2, none⟩ = some (ival ns gs 2) := by rw [hblk.cell]; rfl
      have c3 : wr.cell? ⟨w.heap.size + 1, 3, none⟩ = some (ival ns gs 3) := by rw [hblk.cell]; rfl
      have c4 : wr.cell? ⟨w.heap.size + 1, 4, none⟩ = some (ival ns gs 4) := by rw [hblk.cell]; rfl
      have k0 := ival_cells ns gs 0
      have k1 := ival_cells ns gs 1
      have k2 := ival_cells ns gs 2
      have k3 := ival_cells ns gs 3
      have k4 := ival_cells ns gs 4
      have t0 : ∀ (a : Addr) (w : World) (md : Mode), (store a (ival ns gs 0) md).run Tryd.prog w = stored Tryd.prog w a (ival ns gs 0) md := fun a w md => run_store Tryd.prog w a _ md (ival_one ns gs 0)
      have t1 : ∀ (a : Addr) (w : World) (md : Mode), (store a (ival ns gs 1) md).run Tryd.prog w = stored Tryd.prog w a (ival ns gs 1) md := fun a w md => run_store Tryd.prog w a _ md (ival_one ns gs 1)
      have t2 : ∀ (a : Addr) (w : World) (md : Mode), (store a (ival ns gs 2) md).run Tryd.prog w = stored Tryd.prog w a (ival ns gs 2) md := fun a w md => run_store Tryd.prog w a _ md (ival_one ns gs 2)
      have t3 : ∀ (a : Addr) (w : World) (md : Mode), (store a (ival ns gs 3) md).run Tryd.prog w = stored Tryd.prog w a (ival ns gs 3) md := fun a w md => run_store Tryd.prog w a _ md (ival_one ns gs 3)
      have t4 : ∀ (a : Addr) (w : World) (md : Mode), (store a (ival ns gs 4) md).run Tryd.prog w = stored Tryd.prog w a (ival ns gs 4) md := fun a w md => run_store Tryd.prog w a _ md (ival_one ns gs 4)
      unfold Value.cells at k0 k1 k2 k3 k4
      have HS := Lib.hid (And.intro hblk (And.intro hsams hbel))
      clear hblk hsams hbel
      go_wp2_with fail
      obtain ⟨hblk, hsams, hbel⟩ := HS.out
      have hL := hblk.lt
      have hb0 : Below w.heap.size w wr := by
        have hx : Below w.heap.size w w1 := by rw [HW.out.1]; exact (Below.refl _ _).alloc (Nat.le_refl _) _
        exact hx.trans (hbel.mono (by omega))
      have hnew := Blk.new wr 54 #[ival ns gs 0, ival ns gs 1, ival ns gs 2, ival ns gs 3, ival ns gs 4]
      have hs2 : Sams (wr.alloc (.cells #[ival ns gs 0, ival ns gs 1, ival ns gs 2, ival ns gs 3, ival ns gs 4] 54)) (w.heap.size + 2) wr.heap.size ns gs (kocc lv 0) 5 := by
        rw [kocc_zero]; exact hsams.kept fun g _ hg => Below.heap_alloc wr _ g hg
      have hb2 := hb0.alloc hb0.size (.cells #[ival ns gs 0, ival ns gs 1, ival ns gs 2, ival ns gs 3, ival ns gs 4] 54)
      have H2 := Lib.hid (And.intro hnew (And.intro hs2 hb2))
      obtain ⟨wo, rfl⟩ : ∃ wo : World, wo = wr := ⟨_, rfl⟩
      clear hblk hsams hbel hb0 hnew hs2 hb2 HS c0 c1 c2 c3 c4
      go_loopw [9, 39] (fun v i W => ∃ k : Nat, k ≤ m ∧ i = .int .i64 k ∧ W.ownsRow (wo.heap.size + 1) 4 1 v k (got ns lv k) ∧ Sams W (w.heap.size + 2) wo.heap.size ns gs (kocc lv k) 5 ∧ Blk W wo.heap.size 54 #[ival ns gs 0, ival ns gs 1, ival ns gs 2, ival ns gs 3, ival ns gs 4] ∧ Below w.heap.size w W) (fun _ i _ => m - (intOf i).toNat)
      case atStart => exact ⟨0, Nat.zero_le _, rfl, World.ownsRow_nil _ _ _ _, H2.out.2.1, H2.out.1, H2.out.2.2⟩
      case round =>
        obtain ⟨k, hkm, rfl, hown, hsams, hblk, hbel⟩ := hrel
        have hSlt := hblk.lt
        have hsz := hbel.size
        by_cases hlt : k < m
        · have hlen : lv.length = m := by have := HH.out.2.2.1.1; simpa using this
          have hkl : k < lv.length := by omega
          obtain ⟨ad, u, rfl, hadb, hu, hc⟩ := (HH.out.2.2.1.below hbel).at_ hlt
          obtain ⟨x, hx⟩ : ∃ x, x = lv[k] := ⟨_, rfl⟩
          have hu' : u = .int .i64 x := by rw [hx]; simp [List.getElem?_map, List.getElem?_eq_getElem hkl] at hu; exact hu.symm
          subst hu'
          have hxb := HH.out.2.2.2 lv[k] (List.getElem_mem hkl)
          rw [← hx] at hxb
          obtain ⟨hx1, hx2⟩ := hxb
          have e0 : wr.cell? ⟨wo.heap.size, 0, none⟩ = some (ival ns gs 0) := by rw [hblk.cell]; rfl
          have e1 : wr.cell? ⟨wo.heap.size, 1, none⟩ = some (ival ns gs 1) := by rw [hblk.cell]; rfl
          have e2 : wr.cell? ⟨wo.heap.size, 2, none⟩ = some (ival ns gs 2) := by rw [hblk.cell]; rfl
          have e3 : wr.cell? ⟨wo.heap.size, 3, none⟩ = some (ival ns gs 3) := by rw [hblk.cell]; rfl
          have e4 : wr.cell? ⟨wo.heap.size, 4, none⟩ = some (ival ns gs 4) := by rw [hblk.cell]; rfl
          have HX := Lib.hid hx
          clear hx hu
          have hadk : wr.cell? (ad.add k) = some (.int .i64 x) := hc
          go_wp2_with (first
            | (go_at_call 16; refine (ls_occ ns gs lv k _ (w.heap.size + 2) wo.heap.size x hkl HX.out.symm (by omega) hsams (by omega) HH.out.1 HH.out.2.1 (by omega)).mono ?_; rintro e wa ⟨rfl, hsams1, row, hg1, hrow⟩; have hown1 := hown.kept hg1 (own_ne hown hrow (Nat.le_refl _)); have hblk1 := hblk.grown hg1 (fun e => by have := hrow _ e.symm; omega); have hbel1 := hbel.grown hg1 (by omega) (fun q e => by have := hrow _ e; omega); have hsz1 := hg1.size)
            | (at_builtin; refine wpList_append_own _ rfl (.tmp 43) (.tmp 48) _ rfl (wo.heap.size + 1) 4 i0 (.bool false) 1 1 Tryd.underlying31 hi hz0 hz1 hz2 rfl (by decide) _ _ _ rfl (hown1.alloc _) ⟨wa.heap.size, 0, none⟩ 1 1 [.bool (ans (eff ns x) (occ lv k x))] rfl rfl ?c1 ?c2 ?c3 ?c4 ?c5 ?_))
          case c1 =>
            intro j u hj
            match j, hj with
            | 0, hj => simp at hj; subst hj; simp [Addr.add]
          case c2 => intro u hu; simp at hu; subst hu; rfl
          case c3 => unfold maxLen; omega
          case c4 => omega
          case c5 => simp; omega
          · intro v' w2 hown2 hg2 _
            obtain ⟨O, hO⟩ : ∃ O : Obj, O = .cells #[.bool (ans (eff ns x) (occ lv k x))] 4 := ⟨_, rfl⟩
            rw [← hO] at hg2
            have hblk2 := (hblk1.alloc O).grown hg2 (fun e => by have := hown1.lt _ e.symm; omega)
            have hbel2 := (hbel1.alloc (by omega) O).grown hg2 (by simp; omega) (fun q e => by have := hown1.lt _ e; omega)
            have hsams2 : Sams w2 (w.heap.size + 2) wo.heap.size ns gs (kocc lv (k + 1)) 5 := hsams1.kept fun g _ hg =>
              (hg2.block g (by simp; omega) (fun e => by have := hown1.lt _ e.symm; omega)).trans (Below.heap_alloc wa O g (by omega))
            have hgot : got ns lv (k + 1) = got ns lv k ++ [.bool (ans (eff ns x) (occ lv k x))] := by
              have e : lv.getD k 0 = x := by rw [HX.out, List.getD_eq_getElem?_getD, List.getElem?_eq_getElem hkl]; rfl
              rw [got_succ, e]
            rw [← hgot] at hown2
            have H := Lib.hid (And.intro hown2 (And.intro hsams2 (And.intro hblk2 hbel2)))
            clear hown2 hblk2 hbel2 hsams2 hg2 hown1 hblk1 hbel1 hg1 hown hblk hbel hsams hsams1 hgot hO hrow
            go_wp2
            go_roundw
            case rel => exact ⟨k + 1, by omega, by go_num, H.out.1, H.out.2.1, H.out.2.2.1, H.out.2.2.2⟩
            case measure => simp [intOf]; omega
        · go_wp2
          go_ret
          have : k = m := by omega
          subst this
          exact ⟨_, rfl, hown.mono (by omega), hbel⟩
end Go.Proofs.YtdndjkdcmbifjaaDoor
