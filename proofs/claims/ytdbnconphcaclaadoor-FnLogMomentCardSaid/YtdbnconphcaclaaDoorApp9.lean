/-
  package time's appendInt with a width of 9. Conditions: as each theorem says.
-/
import Derived.Test.YtdbnconphcaclaaDoorAppInt
namespace Go.Proofs.YtdbnconphcaclaaDoor
open Go.RowKit
set_option linter.unusedVariables false

/-- A buffer of 64 bytes: l, then m bytes that are not told, then t. -/
def BM (w : World) (g : Nat) (l : List UInt8) (m : Nat) (t : List UInt8) : Prop := ∃ (T : TypeId) (cs : Array Value) (X : List Value), Blk w g T cs ∧ cs.size = 64 ∧ X.length = m ∧ l.length + m + t.length ≤ 64 ∧ cs.toList.take (l.length + m + t.length) = bytesV l ++ (X ++ bytesV t)
theorem BM.start {w : World} {g n : Nat} {l : List UInt8} (h : BH w g n l) (m : Nat) (hm : n + m ≤ 64) : BM w g l m [] := by
  obtain ⟨h1, T, cs, hb, hs, ht⟩ := h
  refine ⟨T, cs, (cs.toList.drop n).take m, hb, hs, by simp [hs]; omega, by simp [h1]; omega, ?_⟩
  subst h1
  rw [← ht]
  simp only [List.length_nil, Nat.add_zero, bytesV, List.map_nil, List.append_nil]
  rw [List.take_add]
theorem BM.cell {w : World} {g m : Nat} {l t : List UInt8} (h : BM w g l m t) (j : Nat) (hj : j < 64) : ∃ u, w.cell? ⟨g, j, none⟩ = some u := by
  obtain ⟨T, cs, X, hb, hs, _⟩ := h
  rw [hb.cell]
  exact ⟨_, Array.getElem?_eq_getElem (by omega)⟩
theorem BM.frozen {w : World} {g m : Nat} {l t : List UInt8} (h : BM w g l m t) (j : Nat) : w.frozen? ⟨g, j, none⟩ = false := by
  obtain ⟨T, cs, X, hb, _⟩ := h
  exact hb.frozen j
theorem BM.put {w : World} {g m : Nat} {l t : List UInt8} (h : BM w g l (m + 1) t) (x : UInt8) (v : Int) (hv : v = x.toNat) (j : Nat) (hj : j = l.length + m) : BM (w.setCell ⟨g, j, none⟩ (.int .u8 v)) g l m (x :: t) := by
  subst hj hv
  obtain ⟨T, cs, X, hb, hs, hX, hl, ht⟩ := h
  have hX0 : X ≠ [] := by intro e; rw [e] at hX; simp at hX
  refine ⟨T, _, X.dropLast, hb.set_ _ _, by simp [hs], by simp [hX], by simp only [List.length_cons]; omega, ?_⟩
  rw [Array.toList_setIfInBounds, List.take_set, show l.length + m + (x :: t).length = l.length + (m + 1) + t.length by simp only [List.length_cons]; omega, ht]
  have hsp : X = X.dropLast ++ [X.getLast hX0] := (List.dropLast_concat_getLast hX0).symm
  rw [hsp]
  have hd : X.dropLast.length = m := by simp [hX]
  have hbl : (bytesV l).length = l.length := bytesV_length l
  rw [List.set_append_right _ _ (by omega), hbl, show l.length + m - l.length = m by omega, List.append_assoc, List.set_append_right _ _ (by omega), hd, Nat.sub_self]
  simp [bytesV]
theorem BM.done {w : World} {g : Nat} {l t : List UInt8} (h : BM w g l 0 t) (n : Nat) (hn : n = l.length + t.length) : BH w g n (l ++ t) := by
  obtain ⟨T, cs, X, hb, hs, hX, hl, ht⟩ := h
  subst hn
  have : X = [] := List.length_eq_zero_iff.1 hX
  subst this
  exact ⟨by simp, T, cs, hb, hs, by rw [bytesV_append]; simpa using ht⟩

set_option maxRecDepth 100000 in
theorem appint9 (g n v : Nat) (l : List UInt8) (x : Int) (hx : x = v) (hv : v ≤ 999999999) (hv1 : 1 ≤ v) (w : World) (hb : BH w g n l) (hn : n + 9 ≤ 64) :
    Calls Tryd.prog 93 #[.slice (some ⟨g, 0, none⟩) n 64, .int .i64 x, .int .i64 9] w fun e w' => e = .returned (.slice (some ⟨g, 0, none⟩) (n + 9) 64) ∧ BH w' g (n + 9) (l ++ padT v 9) ∧ w.grownBy w' (some g) := by
  have x0 : 1 ≤ x := by omega
  have x1 : x ≤ 999999999 := by omega
  have e0 : (x == 0) = false := by simp; omega
  have H := Lib.hid (And.intro hx (And.intro hb hv))
  clear hx hb hv
  go_enter Tryd.func93, Tryd.ntmps93
  obtain ⟨L, hL⟩ : ∃ L, L = (decs v).length := ⟨_, rfl⟩
  have hL1 : 1 ≤ L := by rw [hL]; exact decs_pos v
  have hL9 : L ≤ 9 := by rw [hL]; exact decs_length 8 v (by have := H.out.2.2; omega)
  obtain ⟨p, hp⟩ : ∃ p, p + L = 9 := ⟨9 - L, by omega⟩
  have HL := Lib.hid hL
  clear hL
  go_wp2
  go_loop [9, 10] (fun k u => ∃ (j m : Nat), m ≤ v ∧ k = .int .i64 j ∧ u = .int .u64 m ∧ (m = 0 → j = L) ∧ (0 < m → j + (decs m).length = L)) (fun _ u => (intOf u).toNat)
  case atStart => exact ⟨0, v, Nat.le_refl _, rfl, by rw [H.out.1], fun h => by have := H.out.1; omega, fun _ => by rw [HL.out]; omega⟩
  case round =>
    obtain ⟨j, m, hm, rfl, rfl, hz, hps⟩ := hrel
    have hv9 := H.out.2.2
    have hm9 : m ≤ 999999999 := by omega
    by_cases hm0 : 0 < m
    · have hps' := hps hm0
      have HZ := Lib.hid (And.intro hps' hm)
      have hdp := decs_pos m
      have hj9 : j ≤ 9 := by omega
      clear hz hps hps' hm hv9 hdp
      go_wp2
      go_round
      case rel =>
        refine ⟨j + 1, m / 10, by have := HZ.out.2; omega, by go_num, by go_num, fun h => ?_, fun h => ?_⟩
        · have := HZ.out.1
          rw [decs_small (by omega)] at this
          simpa using this
        · have := HZ.out.1
          rw [decs_more (by omega), List.length_append] at this
          simp only [List.length_cons, List.length_nil] at this
          omega
      case measure => simp [intOf]; omega
    · have hm00 : m = 0 := by omega
      have hjL := hz hm00
      subst hm00 hjL
      clear hz hps hm hm0 hm9
      have hps : (9 : Int) - (j : Int) = (p : Int) := by omega
      go_wp2
      go_loopw [0, 11] (fun b q wr => ∃ (i : Nat) (z : Int), i ≤ p ∧ b = .slice (some ⟨g, 0, none⟩) (n + i) 64 ∧ q = .int .i64 z ∧ z = (p : Int) - i ∧ BH wr g (n + i) (l ++ List.replicate i 48) ∧ w.grownBy wr (some g)) (fun _ q _ => (intOf q).toNat)
      case atStart => exact ⟨0, _, Nat.zero_le _, rfl, rfl, by simp, by simpa using H.out.2.1, World.grownBy.refl _ _⟩
      case round =>
        obtain ⟨i, z, hi, rfl, rfl, hzz, hb, hg⟩ := hrel
        by_cases hip : i < p
        · obtain ⟨u0, y0⟩ := hb.cellA (n + i) (by omega)
          have z0 := hb.frozenA (n + i)
          have hpos : 0 < z := by omega
          have hz9 : z ≤ 9 := by omega
          have HZ := Lib.hid (And.intro hb (And.intro hg hzz))
          clear hb hg hzz
          go_wp2
          go_roundw
          case rel =>
            refine ⟨i + 1, _, by omega, rfl, rfl, by have := HZ.out.2.2; omega, ?_, only_at (only_alloc HZ.out.2.1 _) _ _⟩
            rw [List.replicate_succ', ← List.append_assoc]
            exact (HZ.out.1.alloc _).put 48 _ rfl (by omega) _ _ rfl rfl
          case measure => simp [intOf]; omega
        · have hip' : i = p := by omega
          have hz0 : z ≤ 0 := by omega
          have hij : i + j = 9 := by omega
          have hroom : (n : Int) + (i : Int) + (j : Int) ≤ 64 := by omega
          have HZ := Lib.hid (And.intro hb hg)
          clear hb hg hzz hip hip' hi
          go_wp2
          go_loopw [7, 12] (fun u q wr2 => ∃ (m k : Nat) (t : List UInt8), m ≤ v ∧ u = .int .u64 m ∧ q = .int .i64 ((n : Int) + i + k) ∧ k + 1 = (decs m).length ∧ decs m ++ t = decs v ∧ BM wr2 g (l ++ List.replicate i 48) (k + 1) t ∧ w.grownBy wr2 (some g)) (fun u _ _ => (intOf u).toNat)
          case atStart => exact ⟨v, j - 1, [], Nat.le_refl _, by rw [H.out.1], by rw [show ((j - 1 : Nat) : Int) = (j : Int) - 1 by omega]; congr 1; omega, by rw [← HL.out]; omega, by simp, by rw [show j - 1 + 1 = j by omega]; exact BM.start HZ.out.1 j (by omega), HZ.out.2⟩
          case round =>
            obtain ⟨m, k, t, hm, rfl, rfl, hk, hd, hbm, hg⟩ := hrel
            have hm9 : m ≤ 999999999 := by omega
            have hkj : k + 1 ≤ 9 := by rw [hk]; exact decs_length 8 m (by omega)
            have hkj2 : k + 1 ≤ j := by
              have := congrArg List.length hd
              rw [List.length_append, ← HL.out] at this
              omega
            have hll : (l ++ List.replicate i 48).length = n + i := by rw [List.length_append, H.out.2.1.1]; simp
            obtain ⟨u0, y0⟩ := hbm.cell (n + i + k) (by omega)
            have z0 := hbm.frozen (n + i + k)
            by_cases hm10 : 10 ≤ m
            · have hk2 : k = (decs (m / 10)).length := by
                rw [decs_more hm10, List.length_append] at hk
                simpa using hk
              have hk1 : 1 ≤ k := by rw [hk2]; exact decs_pos _
              have HQ := Lib.hid (And.intro hk2 (And.intro hd (And.intro hbm (And.intro hg hll))))
              clear hk2 hd hbm hg hk hll
              go_wp2
              go_roundw
              case rel =>
                refine ⟨m / 10, k - 1, dig m :: t, by omega, by go_num, by go_num, by have := HQ.out.1; omega, ?_, ?_, only_at HQ.out.2.2.2.1 _ _⟩
                · rw [← HQ.out.2.1, decs_more hm10, List.append_assoc]; rfl
                · rw [show k - 1 + 1 = k by omega]
                  exact HQ.out.2.2.1.put (dig m) _ (by rw [dig_toNat]; omega) _ (by rw [HQ.out.2.2.2.2])
              case measure => simp [intOf]; omega
            · have hdm : decs m = [dig m] := decs_small (by omega)
              have hk0 : k = 0 := by rw [hdm] at hk; simpa using hk
              subst hk0
              have HQ := Lib.hid (And.intro hdm (And.intro hd (And.intro hbm (And.intro hg hll))))
              clear hdm hd hbm hg hk hll
              simp only [Nat.add_zero] at y0 z0
              go_wp2
              go_ret
              refine ⟨by rw [show n + 9 = n + i + j by omega]; rfl, ?_, only_at HQ.out.2.2.2.1 _ _⟩
              obtain ⟨hdm, hd, hbm, hg, hll⟩ := HQ.out
              have hT : padT v 9 = List.replicate i 48 ++ dig m :: t := by
                unfold padT
                rw [← HL.out, show 9 - j = i by omega, ← hd, hdm]
                rfl
              rw [hT, ← List.append_assoc]
              have h1 := hbm.put (dig m) (48 + (m : Int)) (by rw [dig_toNat]; omega) (n + i) (by rw [hll]; rfl)
              refine h1.done (n + 9) ?_
              have h2 := congrArg List.length hd
              rw [List.length_append, hdm, ← HL.out] at h2
              rw [hll]
              simp only [List.length_cons, List.length_nil] at h2 ⊢
              omega
end Go.Proofs.YtdbnconphcaclaaDoor
