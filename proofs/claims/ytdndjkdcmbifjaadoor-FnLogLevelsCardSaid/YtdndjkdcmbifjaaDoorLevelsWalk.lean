/-
  FnLogLevels returns true for every five samplers and every list of levels: each level's events are sampled for themselves. Conditions: none.
-/
import Derived.Test.YtdndjkdcmbifjaaDoorLevelsImpl
namespace Go.Proofs.YtdndjkdcmbifjaaDoor
open Go.RowKit
set_option linter.unusedVariables false

/-- The answers of a level's sampler to its first q events. -/
def vals (n : Int) (q : Nat) : List Value := (List.range q).map fun i => .bool (ans n i)
theorem vals_succ (n : Int) (q : Nat) : vals n (q + 1) = vals n q ++ [.bool (ans n q)] := by simp [vals, List.range_succ]
theorem vals_evs (n : Int) (q : Nat) (h : n ≠ 0) : vals n q = evs n q := by simp [vals, evs, ans, h]
theorem vals_true (q i : Nat) (h : i < q) : (vals 0 q)[i]? = some (.bool true) := by simp [vals, ans, h]

def max5 (a b c d e : Int) : Int := max (max (max (max a b) c) d) e
theorem run_max5 (a b c d e : Int) (w : World) : (Builtin.max_ #[29, 29, 29, 29, 29] 29 #[.int .u32 a, .int .u32 b, .int .u32 c, .int .u32 d, .int .u32 e]).run Tryd.prog w = .ok (.int .u32 (max5 a b c d e)) w := by
  have h : ∀ x y : Int, (if x < y then y else x) = max x y := by
    intro x y
    rw [Int.max_def]
    split <;> split <;> omega
  simp [Builtin.max_, Builtin.max2, max5, h]
theorem max5_le {a b c d e m : Int} (h : max5 a b c d e ≤ m) : a ≤ m ∧ b ≤ m ∧ c ≤ m ∧ d ≤ m ∧ e ≤ m := by
  unfold max5 at h
  omega

set_option maxHeartbeats 4000000 in
theorem levels_law (ns : Nat → Int) (A : Option Addr) (m c : Nat) (lv : List Int) (w : World) (h0 : ∀ j, 0 ≤ ns j) (h1 : ∀ j, ns j ≤ 4294967295) (h5 : ∀ j, 5 ≤ j → ns j = 0) (hr : Reads w w.heap.size 1 A m (lv.map (.int .i64))) (hmx : m ≤ 9223372036854775807) (hlv : ∀ x ∈ lv, -9223372036854775808 ≤ x ∧ x ≤ 9223372036854775807) :
    Calls Tryd.prog 5 #[.agg #[.int .u32 (ns 0), .int .u32 (ns 1), .int .u32 (ns 2), .int .u32 (ns 3), .int .u32 (ns 4)], .slice A m c] w fun e w' => e = .returned (.bool true) ∧ Below w.heap.size w w' := by
  by_cases g1 : 2147483647 < m
  · clear h0 h1 hr hlv h5
    go_enter Tryd.func5, Tryd.ntmps5
    go_wp2
    go_ret
    exact ⟨rfl, (Below.refl _ _).alloc (Nat.le_refl _) _⟩
  by_cases g2 : 500 < m
  · clear h0 h1 hr hlv h5
    go_enter Tryd.func5, Tryd.ntmps5
    go_wp2
    go_ret
    exact ⟨rfl, (Below.refl _ _).alloc (Nat.le_refl _) _⟩
  have hmx5 := run_max5 (ns 0) (ns 1) (ns 2) (ns 3) (ns 4)
  by_cases g3 : 1000 < max5 (ns 0) (ns 1) (ns 2) (ns 3) (ns 4)
  · clear h0 h1 hr hlv h5
    go_enter Tryd.func5, Tryd.ntmps5
    go_wp2
    go_ret
    exact ⟨rfl, (Below.refl _ _).alloc (Nat.le_refl _) _⟩
  have hle : ∀ j, ns j ≤ 1000 := by
    have h := max5_le (show max5 (ns 0) (ns 1) (ns 2) (ns 3) (ns 4) ≤ 1000 by omega)
    intro j
    by_cases hj : 5 ≤ j
    · rw [h5 j hj]; omega
    · have hj5 : j = 0 ∨ j = 1 ∨ j = 2 ∨ j = 3 ∨ j = 4 := by omega
      rcases hj5 with rfl | rfl | rfl | rfl | rfl <;> omega
  have HH := Lib.hid (And.intro h0 (And.intro hle (And.intro hr hlv)))
  have hlen : lv.length = m := by have := hr.1; simpa using this
  have HL := Lib.hid hlen
  clear h0 h1 hr hlv h5 hle hlen
  have hd1 : decide ((2147483647 : Int) < (m : Int)) = false := by simp; omega
  have hd2 : decide ((500 : Int) < (m : Int)) = false := by simp; omega
  go_enter Tryd.func5, Tryd.ntmps5
  go_wp2
  clear hmx5
  have hn0 := Blk.new w 35 #[.int .u32 (ns 0), .int .u32 (ns 1), .int .u32 (ns 2), .int .u32 (ns 3), .int .u32 (ns 4)]
  have hb0 := (Below.refl w.heap.size w).alloc (Nat.le_refl _) (.cells #[.int .u32 (ns 0), .int .u32 (ns 1), .int .u32 (ns 2), .int .u32 (ns 3), .int .u32 (ns 4)] 35)
  generalize (w.alloc (.cells #[.int .u32 (ns 0), .int .u32 (ns 1), .int .u32 (ns 2), .int .u32 (ns 3), .int .u32 (ns 4)] 35)) = w0 at hn0 hb0 ⊢
  have HN := Lib.hid (And.intro hn0 hb0)
  clear hn0 hb0
  go_loop [36] (fun i => ∃ k : Nat, k ≤ m ∧ i = .int .i64 k ∧ ∀ x ∈ lv.take k, -1 ≤ x ∧ x ≤ 6) (fun i => m - (intOf i).toNat)
  case atStart => exact ⟨0, Nat.zero_le _, rfl, by simp⟩
  case round =>
    obtain ⟨k, hk, rfl, hall⟩ := hrel
    have HA := Lib.hid hall
    clear hall
    by_cases hlt : k < m
    · have hkl : k < lv.length := by have := HL.out; omega
      obtain ⟨ad, u, rfl, hadb, hu, hc⟩ := (HH.out.2.2.1.below HN.out.2).at_ hlt
      obtain ⟨x, hx⟩ : ∃ x, x = lv[k] := ⟨_, rfl⟩
      have hu' : u = .int .i64 x := by rw [hx]; simp [List.getElem?_map, List.getElem?_eq_getElem hkl] at hu; exact hu.symm
      subst hu'
      have HX := Lib.hid hx
      clear hx hu
      by_cases hx1 : x < -1
      · go_wp2
        go_ret
        exact ⟨rfl, HN.out.2⟩
      by_cases hx2 : 6 < x
      · go_wp2
        go_ret
        exact ⟨rfl, HN.out.2⟩
      go_wp2
      go_round
      case rel =>
        refine ⟨k + 1, by omega, by go_num, fun y hy => ?_⟩
        rw [List.take_succ_eq_append_getElem hkl, List.mem_append] at hy
        rcases hy with hy | hy
        · exact HA.out y hy
        · have : y = x := by rw [HX.out]; simpa using hy
          omega
      case measure => simp [intOf]; omega
    · have hkm : k = m := by omega
      subst hkm
      have HA2 : Hid (∀ x ∈ lv, -1 ≤ x ∧ x ≤ 6) := by
        have := HA.out
        rwa [List.take_of_length_le (by have := HL.out; omega)] at this
      clear HA
      have c0 : w0.cell? ⟨w.heap.size, 0, none⟩ = some (.int .u32 (ns 0)) := by rw [HN.out.1.cell]; rfl
      have c1 : w0.cell? ⟨w.heap.size, 1, none⟩ = some (.int .u32 (ns 1)) := by rw [HN.out.1.cell]; rfl
      have c2 : w0.cell? ⟨w.heap.size, 2, none⟩ = some (.int .u32 (ns 2)) := by rw [HN.out.1.cell]; rfl
      have c3 : w0.cell? ⟨w.heap.size, 3, none⟩ = some (.int .u32 (ns 3)) := by rw [HN.out.1.cell]; rfl
      have c4 : w0.cell? ⟨w.heap.size, 4, none⟩ = some (.int .u32 (ns 4)) := by rw [HN.out.1.cell]; rfl
      have hsz0 := HN.out.2.size
      go_wp2_with (go_at_call 12; refine (llevel_sample ns A _ c lv _ HH.out.1 HH.out.2.1 ((HH.out.2.2.1.below HN.out.2).more hsz0) (by omega) HA2.out).mono ?_; rintro e w1 ⟨v, rfl, hown, hbel⟩; obtain ⟨A', c', rfl⟩ := own_slice hown; have HO := Lib.hid (And.intro hown hbel); clear hown hbel)
      obtain ⟨i0, hi, hz0, hz1, hz2⟩ := info_parts bool_info
      have hsz1 := HO.out.2.size
      go_loopw [8] (fun i wr => ∃ j : Nat, j ≤ 8 ∧ i = .int .i64 ((j : Int) - 1) ∧ Below w1.heap.size w1 wr) (fun i _ => (7 - intOf i).toNat)
      case atStart => exact ⟨0, by omega, by go_num, Below.refl _ _⟩
      case round =>
        obtain ⟨j, hj8, rfl, hbw⟩ := hrel
        obtain ⟨wo, rfl⟩ : ∃ wo : World, wo = wr := ⟨_, rfl⟩
        obtain ⟨l, hl⟩ : ∃ l : Int, l = (j : Int) - 1 := ⟨_, rfl⟩
        rw [← hl]
        have hl1 : -1 ≤ l := by omega
        have hl2 : l ≤ 7 := by omega
        have HLl := Lib.hid hl
        clear hl
        by_cases hlt7 : l < 7
        · have hd6 : decide (l ≤ 6) = true := by simp; omega
          go_wp2_with fail
          have hsw := hbw.size
          go_loopw [9, 61] (fun v i wr => ∃ q : Nat, q ≤ k ∧ i = .int .i64 q ∧ wr.ownsRow w1.heap.size 4 1 v (occ lv q l) (vals (eff ns l) (occ lv q l)) ∧ Below w1.heap.size w1 wr) (fun _ i _ => k - (intOf i).toNat)
          case atStart => exact ⟨0, Nat.zero_le _, rfl, by simp [occ, vals, World.ownsRow_nil], hbw⟩
          case round =>
            obtain ⟨q, hq, rfl, hownq, hbq⟩ := hrel
            have HQ := Lib.hid (And.intro hownq hbq)
            have hsq := hbq.size
            by_cases hqk : q < k
            · have hkl : q < lv.length := by have := HL.out; omega
              have hrl : Reads wr w.heap.size 1 A k (lv.map (.int .i64)) := HH.out.2.2.1.below (HN.out.2.trans ((HO.out.2.mono hsz0).trans (hbq.mono (by omega))))
              obtain ⟨ad, u, rfl, hadb, hu, hc⟩ := hrl.at_ hqk
              obtain ⟨x, hx⟩ : ∃ x, x = lv[q] := ⟨_, rfl⟩
              have hu' : u = .int .i64 x := by rw [hx]; simp [List.getElem?_map, List.getElem?_eq_getElem hkl] at hu; exact hu.symm
              subst hu'
              have HX := Lib.hid hx
              clear hx hu hrl
              by_cases hxl : x = l
              · subst hxl
                have hrg : Reads wr w1.heap.size 1 A' k (got ns lv k) := (Reads.of_own HO.out.1).below hbq
                obtain ⟨ad2, u2, rfl, _, hu2, hc2⟩ := hrg.at_ hqk
                have hgd : lv.getD q 0 = x := by rw [HX.out, List.getD_eq_getElem?_getD, List.getElem?_eq_getElem hkl]; rfl
                have hu2' : u2 = .bool (ans (eff ns x) (occ lv q x)) := by
                  simp only [got, List.getElem?_map] at hu2
                  rw [List.getElem?_range hqk] at hu2
                  simp only [Option.map_some, Option.some.injEq, hgd] at hu2
                  exact hu2.symm
                subst hu2'
                clear hu2 hgd hrg
                have ho : occ lv (q + 1) x = occ lv q x + 1 := by rw [occ_succ lv q x hkl, if_pos HX.out.symm]
                have hoq : occ lv q x ≤ q := occ_le lv q x
                have HO2 := Lib.hid ho
                have hownA := hownq
                clear ho
                obtain ⟨bv, hbv⟩ : ∃ bv, bv = ans (eff ns x) (occ lv q x) := ⟨_, rfl⟩
                rw [← hbv] at hc2
                have HB := Lib.hid hbv
                obtain ⟨n9, hn9⟩ : ∃ n9, n9 = occ lv q x := ⟨_, rfl⟩
                rw [← hn9] at hownA hoq
                have HN9 := Lib.hid hn9
                clear hbv hn9 hownq hbq
                go_wp2_with (at_builtin; refine wpList_append_own _ rfl (.tmp 69) (.tmp 74) _ rfl w1.heap.size 4 i0 (.bool false) 1 1 Tryd.underlying31 hi hz0 hz1 hz2 rfl (by decide) _ _ _ rfl (hownA.alloc _) ⟨wr.heap.size, 0, none⟩ 1 1 [.bool bv] rfl rfl ?c1 ?c2 ?c3 ?c4 ?c5 ?_)
                case c1 =>
                  intro j u hj
                  match j, hj with
                  | 0, hj => simp at hj; subst hj; simp [Addr.add]
                case c2 => intro u hu; simp at hu; subst hu; rfl
                case c3 => unfold maxLen; omega
                case c4 => omega
                case c5 => simp; omega
                · intro v' w2 hown2 hg2 _
                  have hbel2 := (HQ.out.2.alloc hsq (.cells #[.bool bv] 4)).grown hg2 (by simp; omega) (fun q e => by have := hownA.lt _ e; omega)
                  rw [HN9.out, HB.out, ← vals_succ, ← HO2.out] at hown2
                  have H := Lib.hid (And.intro hown2 hbel2)
                  clear hown2 hbel2 hg2 hownA
                  go_wp2
                  go_roundw
                  case rel => exact ⟨q + 1, by omega, by go_num, H.out.1, H.out.2⟩
                  case measure => simp [intOf]; omega
              · have hxb : (x == l) = false := by simp [hxl]
                have ho : occ lv (q + 1) l = occ lv q l := by rw [occ_succ lv q l hkl, if_neg (by rw [← HX.out]; exact hxl)]; rfl
                have HO2 := Lib.hid ho
                clear ho hxl hownq hbq
                go_wp2
                go_roundw
                case rel => exact ⟨q + 1, by omega, by go_num, by rw [HO2.out]; exact HQ.out.1, HQ.out.2⟩
                case measure => simp [intOf]; omega
            · have hqk' : q = k := by omega
              subst hqk'
              obtain ⟨A2, c2', rfl⟩ := own_slice hownq
              have hbl : Blk wr w.heap.size 35 #[.int .u32 (ns 0), .int .u32 (ns 1), .int .u32 (ns 2), .int .u32 (ns 3), .int .u32 (ns 4)] :=
                (HN.out.1.below HO.out.2 HN.out.1.lt).below hbq (by have := HN.out.1.lt; omega)
              by_cases hl3 : l ≤ 3
              · obtain ⟨N, hN⟩ := Int.eq_ofNat_of_zero_le (HH.out.1 (l + 1).toNat)
                have hcell : wr.cell? ⟨w.heap.size, (l + 1).toNat, none⟩ = some (.int .u32 N) := by
                  rw [hbl.cell, ← hN]
                  have h5 : l = -1 ∨ l = 0 ∨ l = 1 ∨ l = 2 ∨ l = 3 := by omega
                  rcases h5 with rfl | rfl | rfl | rfl | rfl <;> rfl
                have hN1 : N ≤ 1000 := by have := HH.out.2.1 (l + 1).toNat; omega
                have heff : eff ns l = N := by unfold eff; rw [if_pos ⟨hl1, hl3⟩, hN]
                have HE := Lib.hid (And.intro hN heff)
                clear hN heff hownq hbq hbl
                by_cases hp : 0 < N
                · have hre : Reads wr wr.heap.size 1 A2 (occ lv q l) (evs N (occ lv q l)) := by
                    have := Reads.of_own HQ.out.1
                    rwa [HE.out.2, vals_evs _ _ (by omega)] at this
                  have hoq : occ lv q l ≤ q := occ_le lv q l
                  have HR := Lib.hid hre
                  clear hre
                  go_wp2_with (go_at_call 11; refine (levery N _ _ _ _ _ HR.out (by omega) (by omega) (by omega)).mono ?_; rintro e w' ⟨rfl, rfl⟩)
                  go_roundw
                  case rel => exact ⟨j + 1, by have := HLl.out; omega, by have := HLl.out; go_num, HQ.out.2⟩
                  case measure => simp [intOf]; omega
                · have hN0 : N = 0 := by omega
                  subst hN0
                  have hre : Reads wr wr.heap.size 1 A2 (occ lv q l) (vals 0 (occ lv q l)) := by
                    have := Reads.of_own HQ.out.1
                    rwa [HE.out.2] at this
                  have hoq : occ lv q l ≤ q := occ_le lv q l
                  have HR := Lib.hid hre
                  clear hre hp
                  go_wp2
                  go_loop [96] (fun i => ∃ z : Nat, z ≤ occ lv q l ∧ i = .int .i64 z) (fun i => occ lv q l - (intOf i).toNat)
                  case atStart => exact ⟨0, Nat.zero_le _, rfl⟩
                  case round =>
                    obtain ⟨z, hz, rfl⟩ := hrel
                    by_cases hzk : z < occ lv q l
                    · obtain ⟨ad, u, rfl, _, hu, hc⟩ := HR.out.at_ hzk
                      have hu' : u = .bool true := by rw [vals_true _ _ hzk] at hu; injection hu with hu; exact hu.symm
                      subst hu'
                      clear hu
                      go_wp2
                      go_round
                      case rel => exact ⟨z + 1, by omega, by go_num⟩
                      case measure => simp [intOf]; omega
                    · go_wp2
                      go_roundw
                      case rel => exact ⟨j + 1, by have := HLl.out; omega, by have := HLl.out; go_num, HQ.out.2⟩
                      case measure => simp [intOf]; omega
              · have heff : eff ns l = 0 := by unfold eff; rw [if_neg (by omega)]
                have hre : Reads wr wr.heap.size 1 A2 (occ lv q l) (vals 0 (occ lv q l)) := by
                  have := Reads.of_own HQ.out.1
                  rwa [heff] at this
                have hoq : occ lv q l ≤ q := occ_le lv q l
                have HR := Lib.hid hre
                have hd3 : decide (l ≤ 3) = false := by simp; omega
                clear hre heff hownq hbq hbl
                go_wp2
                go_loop [96] (fun i => ∃ z : Nat, z ≤ occ lv q l ∧ i = .int .i64 z) (fun i => occ lv q l - (intOf i).toNat)
                case atStart => exact ⟨0, Nat.zero_le _, rfl⟩
                case round =>
                  obtain ⟨z, hz, rfl⟩ := hrel
                  by_cases hzk : z < occ lv q l
                  · obtain ⟨ad, u, rfl, _, hu, hc⟩ := HR.out.at_ hzk
                    have hu' : u = .bool true := by rw [vals_true _ _ hzk] at hu; injection hu with hu; exact hu.symm
                    subst hu'
                    clear hu
                    go_wp2
                    go_round
                    case rel => exact ⟨z + 1, by omega, by go_num⟩
                    case measure => simp [intOf]; omega
                  · go_wp2
                    go_roundw
                    case rel => exact ⟨j + 1, by have := HLl.out; omega, by have := HLl.out; go_num, HQ.out.2⟩
                    case measure => simp [intOf]; omega
        · go_wp2_with (go_at_call 9; refine (awake_any _).mono ?_; rintro e w' ⟨rfl, n2, rfl⟩)
          go_ret
          exact ⟨rfl, below_drewN (HN.out.2.trans ((HO.out.2.mono hsz0).trans (hbw.mono (by omega)))) _⟩

def ns5 (a b c d e : Int) : Nat → Int
  | 0 => a
  | 1 => b
  | 2 => c
  | 3 => d
  | 4 => e
  | _ => 0
theorem levels_law5 (a b c d e : Int) (A : Option Addr) (m cap : Nat) (zs : List Int) (ha : 0 ≤ a ∧ a ≤ 4294967295) (hb : 0 ≤ b ∧ b ≤ 4294967295) (hc : 0 ≤ c ∧ c ≤ 4294967295) (hd : 0 ≤ d ∧ d ≤ 4294967295) (he : 0 ≤ e ∧ e ≤ 4294967295) (w : World) (hr : IsRow .i64 w A m cap zs) :
    Calls Tryd.prog 5 #[.agg #[.int .u32 a, .int .u32 b, .int .u32 c, .int .u32 d, .int .u32 e], .slice A m cap] w fun e w' => e = .returned (.bool true) ∧ Below w.heap.size w w' := by
  obtain ⟨h1, h2, h3⟩ := hr.reads
  refine levels_law (ns5 a b c d e) A m cap (zs.take m) w (fun j => ?_) (fun j => ?_) (fun j hj => ?_) h1 h2 (fun x hx => ?_)
  · unfold ns5; split <;> omega
  · unfold ns5; split <;> omega
  · unfold ns5; split <;> omega
  · exact bounds_i64 (h3 x hx)
end Go.Proofs.YtdndjkdcmbifjaaDoor
