/-
  BasicSampler.Sample, LSample and LEvery. Conditions: as each theorem says.
-/
import Derived.Test.YtdndjkdcmbifjaaDoorWords
namespace Go.Proofs.YtdndjkdcmbifjaaDoor
open Go.RowKit
set_option linter.unusedVariables false

/-- What the sampler's counter holds behind k events. -/
def cnt (n : Int) (k : Nat) : Int := if n = 1 then 0 else k
/-- Whether event k (from 0 on) passes a sampler of n. -/
def every (n : Int) (k : Nat) : Bool := decide ((k : Int) % n = 0)

theorem every_one (k : Nat) : every 1 k = true := by unfold every; simp
theorem every_next (n : Int) (k : Nat) (h : 2 ≤ n) : ((((k : Int) + 1) % n) == 1) = every n k := by
  unfold every
  rw [Bool.eq_iff_iff]
  simp only [beq_iff_eq, decide_eq_true_eq]
  have h1 : (1 : Int) % n = 1 := Int.emod_eq_of_lt (by omega) (by omega)
  constructor
  · intro h2
    have : ((k : Int) + 1 - 1) % n = 0 := by rw [Int.sub_emod, h2, h1]; simp
    simpa using this
  · intro h2
    rw [Int.add_emod, h2, h1]
    simpa using h1

def SampleRet (v : Value) (w : World) (g : Nat) (n : Int) (k : Nat) (e : Ending) (w' : World) : Prop :=
  e = .returned v ∧ Blk w' g 48 #[.int .u32 n, .int .u32 (cnt n (k + 1))] ∧ w.grownBy w' (some g)

theorem sample_any (g : Nat) (n lvl : Int) (k : Nat) (w : World) (hb : Blk w g 48 #[.int .u32 n, .int .u32 (cnt n k)]) (h1 : 1 ≤ n) (h2 : n ≤ 4294967295) (hk : k ≤ 1000000) :
    Calls Tryd.prog 15 #[.pointer (some ⟨g, 0, none⟩), .int .i8 lvl] w (SampleRet (.bool (every n k)) w g n k) := by
  have c0 : w.cell? ⟨g, 0, none⟩ = some (.int .u32 n) := hb.cell 0
  by_cases e : n = 1
  · subst e
    have HB := Lib.hid hb
    clear hb
    go_enter Tryd.func15, Tryd.ntmps15
    go_wp2
    go_ret
    refine ⟨ret_bool (every_one k).symm, ?_, World.grownBy.refl w _⟩
    exact HB.out
  · have c1 : w.cell? ⟨g, 1, none⟩ = some (.int .u32 k) := by rw [hb.cell 1]; simp [cnt, e]
    have f1 : w.frozen? ⟨g, 1, none⟩ = false := hb.frozen 1
    have g1 : (n == 0) = false := by simp; omega
    have g2 : (n == 1) = false := by simp; omega
    have hn2 : 2 ≤ n := by omega
    have HB := Lib.hid hb
    have HE := Lib.hid e
    clear hb e
    go_enter Tryd.func15, Tryd.ntmps15
    go_wp2
    go_ret
    refine ⟨ret_bool (every_next n k hn2), ?_, only_setCell (World.grownBy.refl w _) (.inl rfl) _⟩
    have := HB.out.set_ 1 (.int .u32 ((k : Int) + 1))
    simpa [cnt, HE.out] using this

theorem bool_info : (Tryd.prog.info? 4).map (fun i => (i.zero, i.size, i.bytes)) = some (some (.bool false), 1, 1) := by kernel_rfl

/-- The answers of a sampler of n to the first m events. -/
def evs (n : Int) (m : Nat) : List Value := (List.range m).map fun k => .bool (every n k)
theorem evs_succ (n : Int) (m : Nat) : evs n (m + 1) = evs n m ++ [.bool (every n m)] := by simp [evs, List.range_succ]
theorem evs_length (n : Int) (m : Nat) : (evs n m).length = m := by simp [evs]

def OwnBools (w : World) (vs : List Value) (m : Nat) (e : Ending) (w' : World) : Prop :=
  ∃ v, e = .returned v ∧ w'.ownsRow w.heap.size 4 1 v m vs ∧ Below w.heap.size w w'

theorem lsample (n : Int) (m : Nat) (w : World) (h1 : 1 ≤ n) (h2 : n ≤ 1000) (hm : m ≤ 65535) :
    Calls Tryd.prog 10 #[.int .u32 n, .int .i64 m] w (OwnBools w (evs n m) m) := by
  obtain ⟨i0, hi, hz0, hz1, hz2⟩ := info_parts bool_info
  go_enter Tryd.func10, Tryd.ntmps10
  go_wp2_with fail
  go_loopw [6, 12] (fun v i wr => ∃ k : Nat, k ≤ m ∧ i = .int .i64 k ∧ wr.ownsRow (w.heap.size + 1) 4 1 v k (evs n k) ∧ Blk wr w.heap.size 48 #[.int .u32 n, .int .u32 (cnt n k)] ∧ Below w.heap.size w wr) (fun _ i _ => m - (intOf i).toNat)
  case atStart => exact ⟨0, Nat.zero_le _, rfl, World.ownsRow_nil _ _ _ _, by simpa [cnt] using Blk.new w 48 #[.int .u32 n, .int .u32 0], (Below.refl _ _).alloc (Nat.le_refl _) _⟩
  case round =>
    obtain ⟨k, hk, rfl, hown, hblk, hbel⟩ := hrel
    by_cases hlt : k < m
    · have hsz := hbel.size
      have hbs := hblk.lt
      go_wp2_with (first
        | (go_at_call 15; refine (sample_any _ _ _ _ _ hblk h1 (by omega) (by omega)).mono ?_; rintro e w1 ⟨rfl, hblk1, hg1⟩; have hown1 := hown.kept hg1 (.inr (fun e => by have := hown.lt _ e; omega)); have hbel1 := hbel.grown hg1 (by omega) (fun k e => by injection e; omega); have hsz1 := hg1.size)
        | (at_builtin; refine wpList_append_own _ rfl (.tmp 14) (.tmp 17) _ rfl (w.heap.size + 1) 4 i0 (.bool false) 1 1 Tryd.underlying31 hi hz0 hz1 hz2 rfl (by decide) _ _ _ rfl (hown1.alloc _) ⟨w1.heap.size, 0, none⟩ 1 1 [.bool (every n k)] rfl rfl ?c1 ?c2 ?c3 ?c4 ?c5 ?_))
      case c1 =>
        intro j u hj
        match j, hj with
        | 0, hj => simp at hj; subst hj; simp [Addr.add]
      case c2 => intro u hu; simp at hu; subst hu; rfl
      case c3 => unfold maxLen; omega
      case c4 => omega
      case c5 => simp; omega
      · intro v' w2 hown2 hg2 _
        have hblk2 := (hblk1.alloc (.cells #[.bool (every n k)] 4)).grown hg2 (fun e => by have := hown1.lt _ e.symm; omega)
        have hbel2 := (hbel1.alloc (by omega) (.cells #[.bool (every n k)] 4)).grown hg2 (by simp; omega) (fun q e => by have := hown1.lt _ e; omega)
        rw [← evs_succ] at hown2
        have H := Lib.hid (And.intro hown2 (And.intro hblk2 hbel2))
        clear hown2 hblk2 hbel2 hg2 hown1 hblk1 hbel1 hg1 hown hblk hbel
        go_wp2
        go_roundw
        case rel => exact ⟨k + 1, by omega, by go_num, H.out.1, H.out.2.1, H.out.2.2⟩
        case measure => simp [intOf]; omega
    · go_wp2
      go_ret
      have : k = m := by omega
      subst this
      exact ⟨_, rfl, hown.mono (by omega), hbel⟩

theorem every_lt (N k : Nat) (h : k < N) : every N k = decide (k = 0) := by
  unfold every
  rw [Int.emod_eq_of_lt (by omega) (by omega)]
  rw [Bool.eq_iff_iff]
  simp
theorem every_sub (N k : Nat) (h : N ≤ k) : every N (k - N) = every N k := by
  unfold every
  have e : ((k - N : Nat) : Int) = (k : Int) - N := by omega
  rw [e, Int.sub_emod]
  simp

set_option maxHeartbeats 400000 in
theorem levery (N m c B : Nat) (A : Option Addr) (w : World) (hr : Reads w B 1 A m (evs N m)) (h1 : 1 ≤ N) (h2 : N ≤ 1000) (hm : m ≤ 65535) :
    Calls Tryd.prog 11 #[.int .i64 N, .slice A m c] w fun e w' => e = .returned (.bool true) ∧ w = w' := by
  have HR := Lib.hid hr
  clear hr
  go_enter Tryd.func11, Tryd.ntmps11
  go_wp2
  go_loop [5, 10] (fun f i => ∃ k : Nat, k ≤ m ∧ i = .int .i64 k ∧ f = .int .i64 (if k = 0 then 0 else 1)) (fun _ i => m - (intOf i).toNat)
  case atStart => exact ⟨0, Nat.zero_le _, rfl, rfl⟩
  case round =>
    obtain ⟨k, hk, rfl, rfl⟩ := hrel
    by_cases hlt : k < m
    · obtain ⟨ad, u, rfl, _, hu, hc⟩ := HR.out.at_ hlt
      have hu' : u = .bool (every N k) := by simp [evs, hlt] at hu; exact hu.symm
      subst hu'
      clear hu
      by_cases hkn : k < N
      · by_cases hk0 : k = 0
        · subst hk0
          have e0 : every N 0 = true := by rw [every_lt N 0 hkn]; rfl
          rw [e0, show ad.add 0 = ad from by simp [Addr.add]] at hc
          go_wp2
          go_round
          case rel => exact ⟨1, by omega, by go_num, by go_num⟩
          case measure => simp [intOf]; omega
        · have e0 : every N k = false := by rw [every_lt N k hkn]; simp [hk0]
          rw [e0] at hc
          go_wp2
          go_round
          case rel => exact ⟨k + 1, by omega, by go_num, by simp [hk0]⟩
          case measure => simp [intOf]; omega
      · obtain ⟨ad', u, he, _, hu, hc2⟩ := HR.out.at_ (k := k - N) (by omega)
        injection he with he
        subst he
        have hu' : u = .bool (every N k) := by rw [← every_sub N k (by omega)]; simp [evs, show k - N < m by omega] at hu; exact hu.symm
        subst hu'
        clear hu
        have hk0 : k ≠ 0 := by omega
        have hne : (every N k != every N k) = false := by simp
        go_wp2
        go_round
        case rel => exact ⟨k + 1, by omega, by go_num, by simp [hk0]⟩
        case measure => simp [intOf]; omega
    · have hkm : k = m := by omega
      subst hkm
      by_cases hk0 : k = 0
      · subst hk0
        go_wp2
        go_ret
        exact ⟨rfl, rfl⟩
      · have hkb : (k == 0) = false := by simp [hk0]
        go_wp2
        go_ret
        exact ⟨rfl, rfl⟩
end Go.Proofs.YtdndjkdcmbifjaaDoor
