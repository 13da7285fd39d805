/-
  Lists of impl.LOp as they come in: laws.zzFits2, laws.lines. Conditions: as each theorem says.
-/
import Derived.Test.YtdbnconphcaclaaDoorSmall
namespace Go.Proofs.YtdbnconphcaclaaDoor
open Go.RowKit
set_option linter.unusedVariables false

structure OpR where
  lv : Int
  tx : ByteArray
  tg : Bool
  cl : Bool
/-- A slice of LOp at A that reads as L. -/
def OpsAt (w : World) (B : Nat) (A : Option Addr) (L : List OpR) : Prop :=
  0 < L.length → ∃ b o, A = some ⟨b, o, none⟩ ∧ b < B ∧ ∀ i (h : i < L.length), w.cell? ⟨b, o + i * 4, none⟩ = some (.int .i64 L[i].lv) ∧ w.cell? ⟨b, o + i * 4 + 1, none⟩ = some (.string L[i].tx) ∧ w.cell? ⟨b, o + i * 4 + 2, none⟩ = some (.bool L[i].tg) ∧ w.cell? ⟨b, o + i * 4 + 3, none⟩ = some (.bool L[i].cl)
theorem OpsAt.below {w w' : World} {B : Nat} {A : Option Addr} {L : List OpR} (h : OpsAt w B A L) (k : Below B w w') : OpsAt w' B A L := fun hp => by
  obtain ⟨b, o, rfl, hb, hc⟩ := h hp
  refine ⟨b, o, rfl, hb, fun i hi => ?_⟩
  rw [k.cell (p := ⟨b, o + i * 4, none⟩) hb, k.cell (p := ⟨b, o + i * 4 + 1, none⟩) hb, k.cell (p := ⟨b, o + i * 4 + 2, none⟩) hb, k.cell (p := ⟨b, o + i * 4 + 3, none⟩) hb]
  exact hc i hi
theorem OpsAt.at_ {w : World} {B : Nat} {A : Option Addr} {L : List OpR} (h : OpsAt w B A L) (k : Nat) (hk : k < L.length) : ∃ b o x, L[k] = x ∧ L[k]? = some x ∧ A = some ⟨b, o, none⟩ ∧ b < B ∧ w.cell? ⟨b, o + k * 4, none⟩ = some (.int .i64 x.lv) ∧ w.cell? ⟨b, o + k * 4 + 1, none⟩ = some (.string x.tx) ∧ w.cell? ⟨b, o + k * 4 + 2, none⟩ = some (.bool x.tg) ∧ w.cell? ⟨b, o + k * 4 + 3, none⟩ = some (.bool x.cl) := by
  obtain ⟨b, o, hA, hb, hc⟩ := h (by omega)
  exact ⟨b, o, L[k], rfl, List.getElem?_eq_getElem hk, hA, hb, hc k hk⟩
def OpsOk (L : List OpR) : Prop := ∀ x ∈ L, -9223372036854775808 ≤ x.lv ∧ x.lv ≤ 9223372036854775807 ∧ x.tx.size ≤ 9223372036854775807

theorem after_box {a w w1 : World} {o : Obj} (h : Below a.heap.size a w) (k : Below (w.alloc o).heap.size (w.alloc o) w1) : Below a.heap.size a w1 := (h.alloc h.size o).trans (k.mono (by have := h.size; simp; omega))
theorem ret_some {b : Bool} {e : Ending} (h : e = .returned (.bool b)) : ∃ b, e = .returned (.bool b) := ⟨b, h⟩
set_option maxRecDepth 100000 in
theorem zzfits3 (l : Int) (s : ByteArray) (t c : Bool) (hx : s.size ≤ 9223372036854775807) (w : World) :
    Calls Tryd.prog 41 #[.agg #[.int .i64 l, .string s, .bool t, .bool c]] w fun e w' => (∃ b, e = .returned (.bool b)) ∧ Below w.heap.size w w' := by
  by_cases h : 2147483647 < s.size
  · go_enter Tryd.func41, Tryd.ntmps41
    go_wp2
    go_ret
    exact ⟨⟨_, rfl⟩, (Below.refl _ _).alloc (Nat.le_refl _) _⟩
  · go_enter Tryd.func41, Tryd.ntmps41
    go_wp2
    go_ret
    exact ⟨⟨_, rfl⟩, (Below.refl _ _).alloc (Nat.le_refl _) _⟩
set_option maxRecDepth 100000 in
theorem zzfits2 (A : Option Addr) (c : Nat) (L : List OpR) (w : World) (hL : L.length ≤ 9223372036854775807) (ho : OpsAt w w.heap.size A L) (hk : OpsOk L) :
    Calls Tryd.prog 20 #[.slice A L.length c] w fun e w' => (∃ b, e = .returned (.bool b)) ∧ Below w.heap.size w w' := by
  by_cases h : 2147483647 < L.length
  · go_enter Tryd.func20, Tryd.ntmps20
    go_wp2
    go_ret
    exact ⟨⟨_, rfl⟩, Below.refl _ _⟩
  · have H := Lib.hid (And.intro ho hk)
    clear ho hk
    go_enter Tryd.func20, Tryd.ntmps20
    go_wp2
    go_loopw [10] (fun i wr => ∃ k : Nat, k ≤ L.length ∧ i = .int .i64 k ∧ Below w.heap.size w wr) (fun i _ => L.length - (intOf i).toNat)
    case atStart => exact ⟨0, by omega, rfl, Below.refl _ _⟩
    case round =>
      obtain ⟨k, hkl, rfl, hbel⟩ := hrel
      by_cases hlt : k < L.length
      · obtain ⟨b, o, x, hx, hx2, hA, hblk, c0, c1, c2, c3⟩ := (H.out.1.below hbel).at_ k hlt
        subst hA
        have hxo := H.out.2 x (List.mem_of_getElem? hx2)
        obtain ⟨l, s, t, cc⟩ := x
        simp only at c0 c1 c2 c3 hxo
        have HB := Lib.hid (And.intro hbel (And.intro hx2 hx))
        clear hbel hx2 hx
        go_wp2_with (go_at_call 41; refine (zzfits3 l s t cc hxo.2.2 _).mono ?_; rintro e w1 ⟨⟨r, rfl⟩, hb1⟩; have HB1 := Lib.hid hb1; clear hb1 c0 c1 c2 c3)
        · go_ret
          exact ⟨⟨_, rfl⟩, after_box HB.out.1 HB1.out⟩
        · exact ⟨⟨k + 1, hlt, by go_num, after_box HB.out.1 HB1.out⟩, by simp [intOf]; omega⟩
      · have hk2 : k = L.length := by omega
        subst hk2
        go_wp2
        go_ret
        exact ⟨⟨_, rfl⟩, hbel⟩

/-- What laws.lines asks of one. -/
def LineOk (x : OpR) : Prop := (x.tg = false ∨ x.cl = false) ∧ (x.tg = false → x.cl = false → -1 ≤ x.lv ∧ x.lv ≤ 7 ∧ 1 ≤ x.tx.size ∧ x.tx.size ≤ 100 ∧ ∀ i (h : i < x.tx.size), (x.tx[i].toNat = 10 ↔ i + 1 = x.tx.size))
theorem ok_next {L : List OpR} {k : Nat} {x : OpR} (h : ∀ j x, j < k → L[j]? = some x → LineOk x) (hx : L[k]? = some x) (hk : LineOk x) : ∀ j y, j < k + 1 → L[j]? = some y → LineOk y := by
  intro j y hj hy
  rcases Nat.lt_or_ge j k with h1 | h1
  · exact h j y h1 hy
  · obtain rfl : j = k := by omega
    rw [hx] at hy
    injection hy with hy
    exact hy ▸ hk
theorem nl_next {s : ByteArray} {j : Nat} (h : ∀ q (h : q < s.size), q < j → (s[q].toNat = 10 ↔ q + 1 = s.size)) (hj : j < s.size) (hk : s[j].toNat = 10 ↔ j + 1 = s.size) : ∀ q (h : q < s.size), q < j + 1 → (s[q].toNat = 10 ↔ q + 1 = s.size) := by
  intro q hq hqj
  rcases Nat.lt_or_ge q j with h1 | h1
  · exact h q hq h1
  · obtain rfl : q = j := by omega
    exact hk
theorem empty_of {s : ByteArray} (h : s.size = 0) : s = ⟨#[]⟩ := by
  apply ByteArray.ext
  exact Array.eq_empty_of_size_eq_zero h
theorem toList_ne {s : ByteArray} (h : ¬ s.size = 0) : (s.toList == []) = false := by
  cases hl : s.toList with
  | nil =>
    exfalso
    apply h
    rw [size_list, ← ByteArray.toList_eq s, hl]
    rfl
  | cons a b => rfl
def LinesRet (L : List OpR) (w : World) (e : Ending) (w' : World) : Prop := (∃ b, e = .returned (.bool b) ∧ (b = true → L.length ≤ 40 ∧ ∀ x ∈ L, LineOk x)) ∧ Below w.heap.size w w'
theorem lines_no {L : List OpR} {w w' : World} (h : Below w.heap.size w w') : LinesRet L w (.returned (.bool false)) w' := ⟨⟨false, rfl, fun h => by cases h⟩, h⟩

set_option maxRecDepth 100000 in
set_option maxHeartbeats 1000000 in
theorem lines_any (A : Option Addr) (c : Nat) (L : List OpR) (w : World) (hL : L.length ≤ 9223372036854775807) (ho : OpsAt w w.heap.size A L) (hk : OpsOk L) :
    Calls Tryd.prog 21 #[.slice A L.length c] w (LinesRet L w) := by
  by_cases h : 40 < L.length
  · go_enter Tryd.func21, Tryd.ntmps21
    go_wp2
    go_ret
    exact lines_no (Below.refl _ _)
  · have H := Lib.hid (And.intro ho hk)
    clear ho hk
    go_enter Tryd.func21, Tryd.ntmps21
    go_wp2
    go_loopw [11] (fun i wr => ∃ k : Nat, k ≤ L.length ∧ i = .int .i64 k ∧ (∀ j x, j < k → L[j]? = some x → LineOk x) ∧ Below w.heap.size w wr) (fun i _ => L.length - (intOf i).toNat)
    case atStart => exact ⟨0, by omega, rfl, fun j x hj => by omega, Below.refl _ _⟩
    case round =>
      obtain ⟨k, hkl, rfl, hok, hbel⟩ := hrel
      by_cases hlt : k < L.length
      · obtain ⟨b, o, x, hx, hx2, hA, hblk, c0, c1, c2, c3⟩ := (H.out.1.below hbel).at_ k hlt
        subst hA
        have hxo := H.out.2 x (List.mem_of_getElem? hx2)
        obtain ⟨l, s, t, cc⟩ := x
        simp only at c0 c1 c2 c3 hxo
        have HB := Lib.hid (And.intro hbel (And.intro hx2 (And.intro hx hok)))
        clear hbel hx2 hx hok
        cases t
        · cases cc
          · by_cases d1 : l < -1
            · go_wp2
              go_ret
              exact lines_no (HB.out.1.alloc HB.out.1.size _)
            by_cases d2 : 7 < l
            · go_wp2
              go_ret
              exact lines_no (HB.out.1.alloc HB.out.1.size _)
            by_cases d3 : s.size = 0
            · obtain rfl : s = ⟨#[]⟩ := empty_of d3
              go_wp2
              go_ret
              exact lines_no (HB.out.1.alloc HB.out.1.size _)
            have e3 := toList_ne d3
            by_cases d4 : 100 < s.size
            · go_wp2
              go_ret
              exact lines_no (HB.out.1.alloc HB.out.1.size _)
            have d5 : 1 ≤ s.size := by omega
            clear d3
            go_wp2
            obtain ⟨W0, hW0⟩ : ∃ W0, W0 = wr.alloc (.cells #[.int .i64 l, .string s, .bool false, .bool false] 45) := ⟨_, rfl⟩
            have hb0 := Blk.new wr 45 #[.int .i64 l, .string s, .bool false, .bool false]
            have y1 : ∀ n, (W0.drewN n).cell? ⟨wr.heap.size, 1, none⟩ = some (.string s) := fun n => by rw [hW0]; exact (hb0.drewN n).cell 1
            have hbw : Below w.heap.size w W0 := by rw [hW0]; exact HB.out.1.alloc HB.out.1.size _
            rw [← hW0]
            have HW := Lib.hid hbw
            clear hW0 hb0 hbw c0 c1 c2 c3
            go_loopw [5] (fun i wr2 => ∃ j n : Nat, j ≤ s.size ∧ i = .int .i64 j ∧ (∀ q (h : q < s.size), q < j → (s[q].toNat = 10 ↔ q + 1 = s.size)) ∧ wr2 = W0.drewN n) (fun i _ => s.size - (intOf i).toNat)
            case atStart => exact ⟨0, 0, by omega, rfl, fun q h hq => by omega, rfl⟩
            case round =>
              obtain ⟨j, m, hj, rfl, hnl, rfl⟩ := hrel
              have y := y1 m
              have HN := Lib.hid hnl
              clear hnl
              by_cases hjs : j < s.size
              · by_cases p1 : s[j].toNat = 10
                · by_cases p2 : j + 1 = s.size
                  · have q2 : ((j : Int) == (s.size : Int) - 1) = true := by simp; omega
                    go_wp2
                    go_quiet (fail)
                    go_wp2
                    go_roundw
                    case rel => exact ⟨j + 1, _, hjs, by go_num, nl_next HN.out hjs ⟨fun _ => p2, fun _ => p1⟩, rfl⟩
                    case measure => simp [intOf]; omega
                  · have q2 : ((j : Int) == (s.size : Int) - 1) = false := by simp; omega
                    go_wp2
                    go_quiet (fail)
                    go_wp2
                    go_ret
                    exact lines_no (below_drewN (below_drewN HW.out _) _)
                · have q1 : ((s[j].toNat : Int) == 10) = false := by simp; omega
                  by_cases p2 : j + 1 = s.size
                  · have q2 : ((j : Int) == (s.size : Int) - 1) = true := by simp; omega
                    go_wp2
                    go_quiet (fail)
                    go_wp2
                    go_ret
                    exact lines_no (below_drewN (below_drewN HW.out _) _)
                  · have q2 : ((j : Int) == (s.size : Int) - 1) = false := by simp; omega
                    go_wp2
                    go_quiet (fail)
                    go_wp2
                    go_roundw
                    case rel => exact ⟨j + 1, _, hjs, by go_num, nl_next HN.out hjs ⟨fun h => absurd h p1, fun h => absurd h p2⟩, rfl⟩
                    case measure => simp [intOf]; omega
              · go_wp2
                exact ⟨⟨k + 1, hlt, by go_num, ok_next HB.out.2.2.2 HB.out.2.1 ⟨.inl rfl, fun _ _ => ⟨d1, d2, d5, by simp only; omega, fun q h => HN.out q h (by simp only at h; omega)⟩⟩, below_drewN HW.out _⟩, by simp [intOf]; omega⟩
          · go_wp2
            exact ⟨⟨k + 1, hlt, by go_num, ok_next HB.out.2.2.2 HB.out.2.1 ⟨.inl rfl, fun _ h => by cases h⟩, HB.out.1.alloc HB.out.1.size _⟩, by simp [intOf]; omega⟩
        · cases cc
          · go_wp2
            exact ⟨⟨k + 1, hlt, by go_num, ok_next HB.out.2.2.2 HB.out.2.1 ⟨.inr rfl, fun h => by cases h⟩, HB.out.1.alloc HB.out.1.size _⟩, by simp [intOf]; omega⟩
          · go_wp2
            go_ret
            exact lines_no (HB.out.1.alloc HB.out.1.size _)
      · have hk2 : k = L.length := by omega
        subst hk2
        have HB := Lib.hid (And.intro hok hbel)
        clear hok hbel
        go_wp2
        go_ret
        exact ⟨⟨true, rfl, fun _ => ⟨by omega, fun x hx => by
          obtain ⟨j, hj, rfl⟩ := List.getElem_of_mem hx
          exact HB.out.1 j _ hj (List.getElem?_eq_getElem hj)⟩⟩, HB.out.2⟩
end Go.Proofs.YtdbnconphcaclaaDoor
