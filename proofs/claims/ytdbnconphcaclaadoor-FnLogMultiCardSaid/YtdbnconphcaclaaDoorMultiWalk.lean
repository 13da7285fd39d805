/-
  The law FnLogMulti: each writer gets just the lines of its level and above, in order.
-/
import Derived.Test.YtdbnconphcaclaaDoorLMulti
import Derived.Test.YtdbnconphcaclaaDoorOpsIn
import Derived.Deep.RegionHeld3
namespace Go.Proofs.YtdbnconphcaclaaDoor
open Go.RowKit
set_option linter.unusedVariables false

theorem ops_after {w w' : World} {A : Option Addr} {L : List OpR} (h : OpsAt w w.heap.size A L) (hb : Below w.heap.size w w') : OpsAt w' w'.heap.size A L := fun hp => by
  obtain ⟨b, o, h1, h2, h3⟩ := (h.below hb) hp
  exact ⟨b, o, h1, Nat.lt_of_lt_of_le h2 hb.size, h3⟩
theorem reads_after {w w' : World} {A : Option Addr} {n : Nat} {xs : List Value} (h : Reads w w.heap.size 1 A n xs) (hb : Below w.heap.size w w') : Reads w' w'.heap.size 1 A n xs := (h.below hb).more hb.size
set_option maxRecDepth 100000 in
set_option maxHeartbeats 2000000 in
theorem multi_law (a0 : Option Addr) (n0 c0 : Nat) (z0 : List Int) (a1 : Option Addr) (n1 c1 : Nat) (L : List OpR) (w : World) (h0 : IsRow .i64 w a0 n0 c0 z0) (h1 : IsOps w a1 n1 L) :
    Calls Tryd.prog 8 #[.slice a0 n0 c0, .slice a1 n1 c1] w fun e w' => e = .returned (.bool true) ∧ Below w.heap.size w w' := by
  obtain ⟨hr, hn, hwf⟩ := h0.reads
  obtain ⟨rfl, hn1, hops, hok⟩ := h1
  have hlen : (z0.take n0).length = n0 := by
    have := hr.1
    simpa using this
  obtain ⟨zs, hzs⟩ : ∃ zs, zs = z0.take n0 := ⟨_, rfl⟩
  rw [← hzs] at hr hwf hlen
  have hzb : ∀ z ∈ zs, -9223372036854775808 ≤ z ∧ z ≤ 9223372036854775807 := fun z hz => bounds_i64 (hwf z hz)
  have H := Lib.hid (And.intro hr (And.intro hops (And.intro hok hzb)))
  clear h0 hzs hr hops hok hzb hwf
  by_cases hbig : 2147483647 < n0
  · go_enter Tryd.func8, Tryd.ntmps8
    go_wp2
    go_ret
    exact ⟨rfl, Below.refl _ _⟩
  by_cases h6 : 6 < n0
  · go_enter Tryd.func8, Tryd.ntmps8
    go_wp2_with (first
      | (go_at_call 20; refine (zzfits2 a1 c1 L _ hn1 H.out.2.1 H.out.2.2.1).mono ?_; rintro e w1 ⟨⟨b1, rfl⟩, hb1⟩; have H1 := Lib.hid hb1; clear hb1)
      | (go_at_call 21; refine (lines_any a1 c1 L _ hn1 (ops_after H.out.2.1 H1.out) H.out.2.2.1).mono ?_; rintro e w2 ⟨⟨b2, rfl, hb2⟩, hb3⟩; have H2 := Lib.hid (And.intro hb2 hb3); clear hb2 hb3))
    all_goals go_ret
    all_goals first | exact ⟨rfl, H1.out⟩ | exact ⟨rfl, H1.out.trans (H2.out.2.mono H1.out.size)⟩
  go_enter Tryd.func8, Tryd.ntmps8
  go_wp2_with (first
    | (go_at_call 20; refine (zzfits2 a1 c1 L _ hn1 H.out.2.1 H.out.2.2.1).mono ?_; rintro e w1 ⟨⟨b1, rfl⟩, hb1⟩; have H1 := Lib.hid hb1; clear hb1)
    | (go_at_call 21; refine (lines_any a1 c1 L _ hn1 (ops_after H.out.2.1 H1.out) H.out.2.2.1).mono ?_; rintro e w2 ⟨⟨b2, rfl, hb2⟩, hb3⟩; have H2 := Lib.hid (And.intro hb2 hb3); clear hb2 hb3))
  · go_ret
    exact ⟨rfl, H1.out⟩
  · have hb2 : b2 = true := by assumption
    obtain ⟨h40, hlines⟩ := H2.out.1 hb2
    have hb12 : Below w.heap.size w w2 := H1.out.trans (H2.out.2.mono H1.out.size)
    have H3 := Lib.hid (And.intro hlines hb12)
    clear hlines hb12 H1 H2
    go_loopw [28] (fun i wr => ∃ k : Nat, k ≤ L.length ∧ i = .int .i64 k ∧ (∀ j x, j < k → L[j]? = some x → x.tg = false ∧ x.cl = false) ∧ Below w.heap.size w wr) (fun i _ => L.length - (intOf i).toNat)
    case atStart => exact ⟨0, by omega, rfl, fun j x hj => by omega, H3.out.2⟩
    case round =>
      obtain ⟨k, hkl, rfl, hno, hbel⟩ := hrel
      by_cases hlt : k < L.length
      · obtain ⟨b, o, x, hx, hx2, hA, hblk, e0, e1, e2, e3⟩ := (H.out.2.1.below hbel).at_ k hlt
        subst hA
        obtain ⟨l, s, t, cc⟩ := x
        simp only at e0 e1 e2 e3
        have HB := Lib.hid (And.intro hbel (And.intro hx2 hno))
        clear hbel hx2 hx hno
        cases t
        · cases cc
          · go_wp2
            refine ⟨⟨k + 1, hlt, by go_num, fun j y hj hy => ?_, HB.out.1.alloc HB.out.1.size _⟩, by simp [intOf]; omega⟩
            rcases Nat.lt_or_ge j k with h1 | h1
            · exact HB.out.2.2 j y h1 hy
            · obtain rfl : j = k := by omega
              rw [HB.out.2.1] at hy
              injection hy with hy
              subst hy
              exact ⟨rfl, rfl⟩
          · go_wp2
            go_ret
            exact ⟨rfl, HB.out.1.alloc HB.out.1.size _⟩
        · go_wp2
          go_ret
          exact ⟨rfl, HB.out.1.alloc HB.out.1.size _⟩
      · obtain rfl : k = L.length := by omega
        have hin : OpsIn L := by
          intro x hx
          obtain ⟨j, hj, rfl⟩ := List.getElem_of_mem hx
          obtain ⟨t1, t2⟩ := hno j _ hj (List.getElem?_eq_getElem hj)
          obtain ⟨l1, l2, l3, l4, -⟩ := (H3.out.1 _ (List.getElem_mem hj)).2 t1 t2
          exact ⟨l1, l2, l4⟩
        have HB := Lib.hid (And.intro hbel hin)
        clear hbel hin hno
        go_wp2_with (go_at_call 22; refine (lmulti a0 a1 c0 c1 n0 zs L _ hlen H.out.2.2.2 (reads_after H.out.1 HB.out.1) (by omega) (ops_after H.out.2.1 HB.out.1) h40 HB.out.2).mono ?_; rintro e w4 ⟨v, WS, vs, rfl, hWS, hv, hsk, hlev, hb4⟩; obtain ⟨A9, c9, rfl⟩ := own_slice hv; have H4 := Lib.hid (And.intro hWS (And.intro hv (And.intro hsk (And.intro hlev hb4)))); clear hWS hv hsk hlev hb4)
        obtain ⟨Bx, hBx⟩ : ∃ Bx, Bx = wr.heap.size := ⟨_, rfl⟩
        have hbw4 : Below w.heap.size w w4 := HB.out.1.trans (H4.out.2.2.2.2.mono HB.out.1.size)
        rw [← hBx] at H4
        have H5 := Lib.hid hbw4
        clear hbw4 hBx
        go_loopw [49] (fun i wr5 => ∃ k : Nat, k ≤ n0 ∧ i = .int .i64 k ∧ wr5.ownsRow Bx 30 1 (.slice A9 n0 c9) n0 ((List.range n0).map vs) ∧ Sinks wr5 Bx WS vs (fun j => lFilt (lev WS j) L) ∧ Below w.heap.size w wr5) (fun i _ => n0 - (intOf i).toNat)
        case atStart => exact ⟨0, by omega, rfl, H4.out.2.1, H4.out.2.2.1, H5.out⟩
        case round =>
          obtain ⟨k, hkl, rfl, hrow, hsk, hbel⟩ := hrel
          by_cases hlt : k < n0
          · obtain ⟨ad, u, hA, -, hu, hc⟩ := (H.out.1.below hbel).at_ hlt
            obtain ⟨z, hz⟩ : ∃ z, z = zs[k]'(by omega) := ⟨_, rfl⟩
            have hz2 : zs[k]? = some z := by rw [hz]; exact List.getElem?_eq_getElem (by omega)
            have hu2 : u = .int .i64 z := by rw [List.getElem?_map, hz2] at hu; exact (Option.some.inj hu).symm
            subst hA hu2
            have hzb := H.out.2.2.2 z (List.mem_of_getElem? hz2)
            obtain ⟨x, hx⟩ : ∃ x, x = WS[k]'(by have := H4.out.1; omega) := ⟨_, rfl⟩
            have hx2 : WS[k]? = some x := by rw [hx]; exact List.getElem?_eq_getElem _
            obtain ⟨ad9, u9, hA9, -, hu9, hc9⟩ := (Reads.of_own hrow).at_ hlt
            have hu9' : u9 = vs k := by rw [List.getElem?_map, List.getElem?_range hlt] at hu9; exact (Option.some.inj hu9).symm
            obtain ⟨hskx, -⟩ := hsk k x hx2
            simp only at hskx
            obtain ⟨A7, c7, h7⟩ := own_slice hskx.2.1
            by_cases d1 : z < -1
            · have HK := Lib.hid hbel
              clear hbel hskx hsk hrow hu9 hu hz hx h7
              go_wp2
              go_ret
              exact ⟨rfl, HK.out⟩
            by_cases d2 : 7 < z
            · have HK := Lib.hid hbel
              clear hbel hskx hsk hrow hu9 hu hz hx h7
              go_wp2
              go_ret
              exact ⟨rfl, HK.out⟩
            have hlz : lev WS k = z := by
              have := H4.out.2.2.2.1 k x z hx2 hz2 (by omega) (by omega)
              unfold lev
              rw [List.getD_eq_getElem?_getD, hx2]
              exact this
            obtain ⟨l, hl⟩ : ∃ l, l = lFilt z L := ⟨_, rfl⟩
            have hl40 : l.length ≤ 40 := by
              rw [hl]
              unfold lFilt
              rw [List.length_map]
              exact Nat.le_trans (List.length_filter_le _ _) h40
            rw [hlz, ← hl] at hskx h7
            rw [hu9', h7] at hc9
            subst hA9
            have hown7 := hskx.2.1
            rw [h7] at hown7
            have hr1 := Reads.of_own hown7
            have hlt9 : ad9.block < wr.heap.size := by have := World.block_lt_of_cell? wr _ hc9; rwa [block_of_add] at this
            have HK := Lib.hid (And.intro hrow (And.intro hsk (And.intro hbel (And.intro hr1 (And.intro hl (ops_after H.out.2.1 hbel))))))
            clear hbel hskx hsk hrow hu9 hu hz hx h7 hu9' hx2 hz2 hlz hr1 hl hown7
            go_wp2
            go_region_held3 (fun W => W.cell? (ad9.add k) = some (.slice A7 l.length c7)) (first | exact e9 | exact d9 | exact hc9)
              (first
                | (go_at_call 23; refine (ltexts A7 A6 c7 c6 l (Nat.max wr.heap.size w6.heap.size) _ (H6.out.2.2.more (Nat.le_max_left _ _)) (H6.out.2.1.more (Nat.le_max_right _ _)) hl40).mono ?_; rintro e w7 ⟨rfl, m7, rfl⟩; have e9 : (w6.drewN m7).cell? (ad9.add k) = some (.slice A7 l.length c7) := d9)
                | (go_at_call 24; refine (lfiltered z a1 c1 L wr.drew hzb.1 hzb.2 h40 (show OpsAt wr.drew wr.drew.heap.size a1 L from HK.out.2.2.2.2.2) H.out.2.2.1).mono ?_; rintro e w6 ⟨v6, rfl, ho6, hb6'⟩; have hb6 : Below wr.heap.size wr w6 := ((Below.refl wr.heap.size wr).drew).trans hb6'; clear hb6'; rw [← HK.out.2.2.2.2.1] at ho6; obtain ⟨A6, c6, rfl⟩ := own_slice ho6; have d9 : w6.cell? (ad9.add k) = some (.slice A7 l.length c7) := by (rw [hb6.cell (p := ad9.add k) (by rw [block_of_add]; exact hlt9)]; exact hc9)
                   have H6 := Lib.hid (And.intro hb6 (And.intro (Reads.of_own ho6) (HK.out.2.2.2.1.below hb6))); clear hb6 ho6))
            have hbf : Below wr.heap.size wr (w6.drewN m7) := below_drewN H6.out.1 _
            have HF := Lib.hid hbf
            clear hbf
            go_wp2
            exact ⟨⟨k + 1, hlt, by go_num, own_below' HK.out.1 HF.out, HK.out.2.1.below HF.out, HK.out.2.2.1.trans (HF.out.mono HK.out.2.2.1.size)⟩, by simp [intOf]; omega⟩
          · have HK := Lib.hid hbel
            clear hbel hrow hsk
            go_wp2_with (go_at_call 12; refine (awake_any _).mono ?_; rintro e w' ⟨rfl, n2, rfl⟩)
            go_ret
            exact ⟨rfl, below_drewN HK.out _⟩
  · go_ret
    exact ⟨rfl, H1.out.trans (H2.out.2.mono H1.out.size)⟩
end Go.Proofs.YtdbnconphcaclaaDoor
