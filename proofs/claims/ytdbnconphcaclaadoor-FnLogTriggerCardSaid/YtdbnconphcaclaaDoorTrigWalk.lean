/-
  The law FnLogTrigger: what waits comes out at the trigger, in order. Conditions: as the theorem says.
-/
import Derived.Test.YtdbnconphcaclaaDoorLTrig
import Derived.Test.YtdbnconphcaclaaDoorOpsIn
namespace Go.Proofs.YtdbnconphcaclaaDoor
open Go.RowKit
set_option linter.unusedVariables false

theorem ops_after {w w' : World} {A : Option Addr} {L : List OpR} (h : OpsAt w w.heap.size A L) (hb : Below w.heap.size w w') : OpsAt w' w'.heap.size A L := fun hp => by
  obtain ⟨b, o, h1, h2, h3⟩ := (h.below hb) hp
  exact ⟨b, o, h1, Nat.lt_of_lt_of_le h2 hb.size, h3⟩
theorem cl_next {L : List OpR} {k : Nat} {x : OpR} (h : ∀ j y, j < k → L[j]? = some y → y.cl = true → j + 1 = L.length) (hx : L[k]? = some x) (hk : x.cl = true → k + 1 = L.length) : ∀ j y, j < k + 1 → L[j]? = some y → y.cl = true → j + 1 = L.length := by
  intro j y hj hy hc
  rcases Nat.lt_or_ge j k with h1 | h1
  · exact h j y h1 hy hc
  · obtain rfl : j = k := by omega
    rw [hx] at hy
    injection hy with hy
    subst hy
    exact hk hc
set_option maxRecDepth 100000 in
set_option maxHeartbeats 2000000 in
theorem trigger_law (cond trig : Int) (a1 : Option Addr) (n1 c1 : Nat) (L : List OpR) (hcb : -9223372036854775808 ≤ cond ∧ cond ≤ 9223372036854775807) (htb : -9223372036854775808 ≤ trig ∧ trig ≤ 9223372036854775807) (w : World) (h1 : IsOps w a1 n1 L) :
    Calls Tryd.prog 9 #[.int .i64 cond, .int .i64 trig, .slice a1 n1 c1] w fun e w' => e = .returned (.bool true) ∧ Below w.heap.size w w' := by
  obtain ⟨rfl, hn1, hops, hok⟩ := h1
  have H := Lib.hid (And.intro hops hok)
  clear hops hok
  go_enter Tryd.func9, Tryd.ntmps9
  go_wp2_with (first
    | (go_at_call 20; refine (zzfits2 a1 c1 L _ hn1 H.out.1 H.out.2).mono ?_; rintro e w1 ⟨⟨b1, rfl⟩, hb1⟩; have H1 := Lib.hid hb1; clear hb1)
    | (go_at_call 21; refine (lines_any a1 c1 L _ hn1 (ops_after H.out.1 H1.out) H.out.2).mono ?_; rintro e w2 ⟨⟨b2, rfl, hb2⟩, hb3⟩; have H2 := Lib.hid (And.intro hb2 hb3); clear hb2 hb3))
  all_goals try (go_ret; first | exact ⟨rfl, H1.out⟩ | exact ⟨rfl, H1.out.trans (H2.out.2.mono H1.out.size)⟩)
  have hb2 : b2 = true := by assumption
  have hmm : -1 ≤ min cond trig ∧ max cond trig ≤ 7 := by assumption
  have g0 : -1 ≤ cond := by omega
  have g1 : cond ≤ 7 := by omega
  have g2 : -1 ≤ trig := by omega
  have g3 : trig ≤ 7 := by omega
  obtain ⟨h40, hlines⟩ := H2.out.1 hb2
  have hb12 : Below w.heap.size w w2 := H1.out.trans (H2.out.2.mono H1.out.size)
  have H3 := Lib.hid (And.intro hlines hb12)
  clear hlines hb12 H1 H2 hmm
  go_loopw [29] (fun i wr => ∃ k : Nat, k ≤ L.length ∧ i = .int .i64 k ∧ (∀ j x, j < k → L[j]? = some x → x.cl = true → j + 1 = L.length) ∧ Below w.heap.size w wr) (fun i _ => L.length - (intOf i).toNat)
  case atStart => exact ⟨0, by omega, rfl, fun j x hj => by omega, H3.out.2⟩
  case round =>
    obtain ⟨k, hkl, rfl, hno, hbel⟩ := hrel
    by_cases hlt : k < L.length
    · obtain ⟨b, o, x, hx, hx2, hA, hblk, e0, e1, e2, e3⟩ := (H.out.1.below hbel).at_ k hlt
      subst hA
      obtain ⟨l, s, t, cc⟩ := x
      simp only at e0 e1 e2 e3
      have HB := Lib.hid (And.intro hbel (And.intro hx2 hno))
      clear hbel hx2 hx hno
      cases cc
      · go_wp2
        exact ⟨⟨k + 1, hlt, by go_num, cl_next HB.out.2.2 HB.out.2.1 (fun h => by cases h), HB.out.1.alloc HB.out.1.size _⟩, by simp [intOf]; omega⟩
      · by_cases hlast : k + 1 < L.length
        · go_wp2
          go_ret
          exact ⟨rfl, HB.out.1.alloc HB.out.1.size _⟩
        · go_wp2
          exact ⟨⟨k + 1, hlt, by go_num, cl_next HB.out.2.2 HB.out.2.1 (fun _ => by omega), HB.out.1.alloc HB.out.1.size _⟩, by simp [intOf]; omega⟩
    · obtain rfl : k = L.length := by omega
      have hcl : ClLast L := fun j x hx hc => hno j x (List.getElem?_eq_some_iff.1 hx).1 hx hc
      have hlen := tRun_len cond trig L L.length (Nat.le_refl _)
      rw [List.take_length] at hlen
      obtain ⟨l, hl⟩ : ∃ l, l = (tRun cond trig L).ys := ⟨_, rfl⟩
      have hl40 : l.length ≤ 40 := by rw [hl]; omega
      have HB := Lib.hid (And.intro hbel (And.intro hcl hl))
      clear hbel hcl hno hlen hl
      go_wp2_with (first
        | (go_at_call 12; refine (awake_any _).mono ?_; rintro e w' ⟨rfl, n2, rfl⟩)
        | (go_at_call 23; refine (ltexts A4 A5 c4 c5 l w5.heap.size _ ((H4.out.1.below H5.out.2).more H5.out.2.size) H5.out.1 hl40).mono ?_; rintro e w7 ⟨rfl, m7, rfl⟩)
        | (go_at_call 26; refine (ltriggered cond trig _ _ L _ h40 (ops_after H.out.1 H4.out.2) H3.out.1 HB.out.2.1).mono ?_; rintro e w5 ⟨v5, rfl, ho5, hb5⟩; rw [← HB.out.2.2] at ho5; obtain ⟨A5, c5, rfl⟩ := own_slice ho5; have H5 := Lib.hid (And.intro (Reads.of_own ho5) hb5); clear ho5 hb5)
        | (go_at_call 25; refine (ltrigger cond trig _ _ L _ g0 g1 g2 g3 h40 (ops_after H.out.1 HB.out.1) H3.out.1 HB.out.2.1).mono ?_; rintro e w4 ⟨v4, rfl, ho4, hb4⟩; rw [← HB.out.2.2] at ho4; obtain ⟨A4, c4, rfl⟩ := own_slice ho4; have H4 := Lib.hid (And.intro (Reads.of_own ho4) (HB.out.1.trans (hb4.mono HB.out.1.size))); clear ho4 hb4))
      go_ret
      exact ⟨rfl, below_drewN (H4.out.2.trans (H5.out.2.mono H4.out.2.size)) _⟩
end Go.Proofs.YtdbnconphcaclaaDoor
