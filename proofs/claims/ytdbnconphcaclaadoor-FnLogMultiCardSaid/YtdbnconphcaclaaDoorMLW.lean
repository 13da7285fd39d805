/-
  zerolog's MultiLevelWriter. Conditions: as each theorem says.
-/
import Derived.Test.YtdbnconphcaclaaDoorMulti
namespace Go.Proofs.YtdbnconphcaclaaDoor
open Go.RowKit
set_option linter.unusedVariables false

theorem lw_info : (Tryd.prog.info? 90).map (fun i => (i.zero, i.size, i.bytes)) = some (some .nilIface, 1, 16) := by kernel_rfl

theorem assert_lw (a : Addr) (w : World) : (Instr.typeAssert (.iface 82 (.pointer (some a))) 84 90 true).run Tryd.prog w = .ok (.tuple #[.iface 82 (.pointer (some a)), .bool true]) w := by kernel_rfl
set_option maxRecDepth 100000 in
set_option maxHeartbeats 1000000 in
theorem mlw_any (WS : List (Nat × Nat × Int)) (A : Option Addr) (c B0 : Nat) (w : World) (hr : Reads w B0 1 A WS.length (WS.map lwv)) (hB0 : B0 ≤ w.heap.size) (h6 : WS.length ≤ 6) :
    Calls Tryd.prog 42 #[.slice A WS.length c] w fun e w' => ∃ vw, e = .returned (.iface 121 (.agg #[vw])) ∧ w'.ownsRow w.heap.size 90 1 vw WS.length (WS.map lwv) ∧ Below w.heap.size w w' := by
  obtain ⟨ti, hi, hz0, hz, hz2⟩ := info_parts lw_info
  obtain ⟨w0, hmk, hown, hgr⟩ := run_make_own (P := Tryd.prog) w w.heap.size 118 90 ti .nilIface 1 Tryd.underlying118 hi hz0 hz .i64 .i64 WS.length (by rw [hz2]; omega) (by unfold maxLen; omega) (Nat.le_refl _)
  have H := Lib.hid (And.intro hr (And.intro hown hgr))
  clear hr hown hgr hi hz0 hz hz2
  go_enter Tryd.func42, Tryd.ntmps42
  go_wp2
  go_loopw [3, 13] (fun v i wr => ∃ k : Nat, k ≤ WS.length ∧ i = .int .i64 k ∧ wr.ownsRow w.heap.size 90 1 v k ((WS.map lwv).take k) ∧ Below w.heap.size w wr) (fun _ i _ => WS.length - (intOf i).toNat)
  case atStart => exact ⟨0, by omega, rfl, H.out.2.1, (Below.refl w.heap.size w).grown H.out.2.2 (Nat.le_refl _) (fun _ e => by cases e)⟩
  case round =>
    obtain ⟨k, hkl, rfl, hown, hbel⟩ := hrel
    by_cases hlt : k < WS.length
    · obtain ⟨x, hx⟩ : ∃ x, x = WS[k] := ⟨_, rfl⟩
      have hx2 : WS[k]? = some x := by rw [hx]; exact List.getElem?_eq_getElem hlt
      obtain ⟨ad, u, hA, -, hu, hc⟩ := (H.out.1.below (hbel.mono hB0)).at_ hlt
      have hu2 : u = lwv x := by rw [List.getElem?_map, hx2] at hu; exact (Option.some.inj hu).symm
      subst hA hu2
      have htk : (WS.map lwv).take (k + 1) = (WS.map lwv).take k ++ [lwv x] := by
        rw [List.take_succ_eq_append_getElem (by simp; omega), List.getElem_map, ← hx]
      have hfull := hc
      have has := assert_lw ⟨x.2.1, 0, none⟩
      unfold lwv at hc
      have HB := Lib.hid (And.intro hbel (And.intro htk (And.intro hown hfull)))
      clear hbel htk hown hx hx2 hu hfull
      go_wp2_with (at_builtin; refine app1 (B := w.heap.size) 118 90 16 wr.heap.size Tryd.underlying118 lw_info rfl (by decide) _ _ rfl rfl rfl HB.out.2.2.1 rfl rfl rfl (by omega) HB.out.1.size ?_; intro v2 w2 ho2 hg2 hr2; have H2 := Lib.hid (And.intro ho2 (And.intro hg2 hr2)); clear ho2 hg2 hr2)
      exact ⟨⟨k + 1, hlt, by go_num, by rw [HB.out.2.1]; exact H2.out.1, (HB.out.1.alloc HB.out.1.size _).grown H2.out.2.1 (by have := HB.out.1.size; simp; omega) (fun g e => (HB.out.2.2.1.lt g e).1)⟩, by simp [intOf]; omega⟩
    · have hk2 : k = WS.length := by omega
      subst hk2
      rw [List.take_of_length_le (by simp)] at hown
      obtain ⟨A3, c3, rfl⟩ := own_slice hown
      have HB := Lib.hid (And.intro hown hbel)
      clear hown hbel
      go_wp2
      go_ret
      exact ⟨_, rfl, HB.out.1, HB.out.2⟩
end Go.Proofs.YtdbnconphcaclaaDoor
