/-
  zerolog's events over impl's lines: msg and Msg. Conditions: as each theorem says.
-/
import Derived.Test.YtdbnconphcaclaaGreatDoorPEv
namespace Go.Proofs.YtdbnconphcaclaaGreatDoor
open Go.RowKit
set_option linter.unusedVariables false

set_option maxRecDepth 100000 in
set_option maxHeartbeats 1000000 in
theorem msg_any (Bs B ev cf b n c : Nat) (g l : Int) (P : Option Addr) (A : List UInt8) (s : ByteArray) (w : World) (h : EvS w B ev cf b l (.slice P n c) A) (hc : Cf w cf g) (hs : Sink w Bs b (.slice none 0 0) []) (hl : A.length ≤ 500) (hB : B ≤ w.heap.size) (hBs : Bs ≤ B) (hl7 : (l != 7) = true) (hx : Plain s) (hxs : s.size ≤ 20) (hx1 : (!s.toList.isEmpty) = true) (hm9 : Plain ⟨#[109, 101, 115, 115, 97, 103, 101]⟩) :
    Calls Tryz.prog 20 #[.pointer (some ⟨ev, 0, none⟩), .string s] w fun e w' => e = .returned (.tuple #[]) ∧ WrRet Bs b w w' := by
  have hm1 := method_key
  have hm2 := method_string
  have e0 := h.1.cell 0
  have e4 := h.1.cell 4
  have e6 := h.1.cell 6
  simp at e0 e4 e6
  have c15 := hc.c15
  have c2 := hc.c2
  have H := Lib.hid (And.intro h (And.intro hc (And.intro hx (And.intro hm9 hs))))
  clear h hc hx hs hm9
  go_enter Tryz.func20, Tryz.ntmps20
  go_wp2
  go_loopw [11] (fun i wr => i = .int .i64 0 ∧ wr = w) (fun _ _ => 0)
  case atStart => exact ⟨rfl, rfl⟩
  case round =>
    obtain ⟨rfl, rfl⟩ := hrel
    go_wp2
    refine wp_region_held_drew (S := fun W => W.cell? ⟨ev, 6, none⟩ = some (.pointer (some ⟨cf, 0, none⟩)) ∧ W.cell? ⟨cf, 15, none⟩ = some (.iface 56 (.agg #[])) ∧ W.cell? ⟨cf, 2, none⟩ = some (.string ⟨#[109, 101, 115, 115, 97, 103, 101]⟩)) (by kernel_rfl) ?_ (fun hHeld => ?_)
    · exact ⟨e6, c15, c2⟩
    refine wpAnyH_take (i := 0) (oi := ⟨some 29, _, _, _, _, _⟩) (v := ?_) rfl (by kernel_rfl) (by kernel_rfl) (by kernel_rfl) (fun _ _ _ h => h) (Or.inl ⟨by rfl, ?_⟩) (by assumption) ?_
    rotate_left
    · intro W hW; (try dsimp only at hW); go_simp <;> with_reducible rfl
    (try simp only [Act.put, List.setIfInBounds_toArray, List.set_cons_zero, List.set_cons_succ])
    refine wpAnyH_take (i := 1) (oi := ⟨some 30, _, _, _, _, _⟩) (v := ?_) rfl (by kernel_rfl) (by kernel_rfl) (by kernel_rfl) (fun _ _ _ h => h) (Or.inl ⟨by rfl, ?_⟩) (by assumption) ?_
    rotate_left
    · intro W hW; (try dsimp only at hW); go_simp <;> with_reducible rfl
    (try simp only [Act.put, List.setIfInBounds_toArray, List.set_cons_zero, List.set_cons_succ])
    refine wpAnyH_take (i := 2) (oi := ⟨some 31, _, _, _, _, _⟩) (v := ?_) rfl (by kernel_rfl) (by kernel_rfl) (by kernel_rfl) (fun _ _ _ h => h) (Or.inl ⟨by rfl, ?_⟩) (by assumption) ?_
    rotate_left
    · intro W hW; (try dsimp only at hW); go_simp <;> with_reducible rfl
    (try simp only [Act.put, List.setIfInBounds_toArray, List.set_cons_zero, List.set_cons_succ])
    refine wpAnyH_take (i := 3) (oi := ⟨some 32, _, _, _, _, _⟩) (v := ?_) rfl (by kernel_rfl) (by kernel_rfl) (by kernel_rfl) (fun _ _ _ h => h) (Or.inl ⟨by rfl, ?_⟩) (by assumption) ?_
    rotate_left
    · intro W hW; (try dsimp only at hW); go_simp <;> with_reducible rfl
    (try simp only [Act.put, List.setIfInBounds_toArray, List.set_cons_zero, List.set_cons_succ])
    refine wpAnyH_take (i := 4) (oi := ⟨some 33, _, _, _, _, _⟩) (v := ?_) rfl (by kernel_rfl) (by kernel_rfl) (by kernel_rfl) (fun _ _ _ h => h) (Or.inl ⟨by rfl, ?_⟩) (by assumption) ?_
    rotate_left
    · intro W hW; (try dsimp only at hW); go_simp <;> with_reducible rfl
    (try simp only [Act.put, List.setIfInBounds_toArray, List.set_cons_zero, List.set_cons_succ])
    refine wpAnyH_take (i := 5) (oi := ⟨some 34, _, _, _, _, _⟩) (v := ?_) rfl (by kernel_rfl) (by kernel_rfl) (by kernel_rfl) (fun _ _ _ h => h) (Or.inl ⟨by rfl, ?_⟩) (by assumption) ?_
    rotate_left
    · intro W hW; (try dsimp only at hW); go_simp <;> with_reducible rfl
    (try simp only [Act.put, List.setIfInBounds_toArray, List.set_cons_zero, List.set_cons_succ])
    refine wpAnyH_take (i := 6) (oi := ⟨some 35, _, _, _, _, _⟩) (v := ?_) rfl (by kernel_rfl) (by kernel_rfl) (by kernel_rfl) (fun _ _ _ h => h) (Or.inl ⟨by rfl, ?_⟩) (by assumption) ?_
    rotate_left
    · intro W hW; (try dsimp only at hW); go_simp <;> with_reducible rfl
    (try simp only [Act.put, List.setIfInBounds_toArray, List.set_cons_zero, List.set_cons_succ])
    refine wpAnyH_take (i := 7) (oi := ⟨some 36, _, _, _, _, _⟩) (v := ?_) rfl (by kernel_rfl) (by kernel_rfl) (by kernel_rfl) (fun _ _ _ h => h) (Or.inl ⟨by rfl, ?_⟩) (by assumption) ?_
    rotate_left
    · intro W hW; (try dsimp only at hW); go_simp <;> with_reducible rfl
    (try simp only [Act.put, List.setIfInBounds_toArray, List.set_cons_zero, List.set_cons_succ])
    refine wpAnyH_take (i := 8) (oi := ⟨some 37, _, _, _, _, _⟩) (v := ?_) rfl (by kernel_rfl) (by kernel_rfl) (by kernel_rfl) (fun _ _ _ h => h) (Or.inl ⟨by rfl, ?_⟩) (by assumption) ?_
    rotate_left
    · intro W hW; (try dsimp only at hW); go_simp <;> with_reducible rfl
    (try simp only [Act.put, List.setIfInBounds_toArray, List.set_cons_zero, List.set_cons_succ])
    refine wpAnyH_take (i := 9) (oi := ⟨some 38, _, _, _, _, _⟩) (v := ?_) rfl (by kernel_rfl) (by kernel_rfl) (by kernel_rfl) (fun _ _ _ h => h) (Or.inl ⟨by rfl, ?_⟩) (by assumption) ?_
    rotate_left
    · intro W hW; (try dsimp only at hW); go_simp <;> with_reducible rfl
    (try simp only [Act.put, List.setIfInBounds_toArray, List.set_cons_zero, List.set_cons_succ])
    refine wpAnyH_take (i := 10) (oi := ⟨some 39, _, _, _, _, _⟩) (v := ?_) rfl (by kernel_rfl) (by kernel_rfl) (by kernel_rfl) (fun _ _ _ h => h) (Or.inl ⟨by rfl, ?_⟩) (by assumption) ?_
    rotate_left
    · intro W hW; (try dsimp only at hW); go_simp <;> with_reducible rfl
    (try simp only [Act.put, List.setIfInBounds_toArray, List.set_cons_zero, List.set_cons_succ])
    refine wpAnyH_take (i := 11) (oi := ⟨some 40, _, _, _, _, _⟩) (v := ?_) rfl (by kernel_rfl) (by kernel_rfl) (by kernel_rfl) (fun _ _ _ h => h) (Or.inl ⟨by rfl, ?_⟩) (by assumption) ?_
    rotate_left
    · intro W hW; (try dsimp only at hW); go_simp <;> with_reducible rfl
    (try simp only [Act.put, List.setIfInBounds_toArray, List.set_cons_zero, List.set_cons_succ])
    refine wpAnyH_take (i := 12) (oi := ⟨some 41, _, _, _, _, _⟩) (v := ?_) rfl (by kernel_rfl) (by kernel_rfl) (by kernel_rfl) (fun _ _ _ h => h) (Or.inl ⟨by rfl, ?_⟩) (by assumption) ?_
    rotate_left
    · intro W hW; (try dsimp only at hW); go_simp <;> with_reducible rfl
    (try simp only [Act.put, List.setIfInBounds_toArray, List.set_cons_zero, List.set_cons_succ])
    refine wpAnyH_take (i := 13) (oi := ⟨some 42, _, _, _, _, _⟩) (v := ?_) rfl (by kernel_rfl) (by kernel_rfl) (by kernel_rfl) (fun _ _ _ h => h) (Or.inl ⟨by rfl, ?_⟩) (by assumption) ?_
    rotate_left
    · intro W hW; (try dsimp only at hW); go_simp <;> with_reducible rfl
    (try simp only [Act.put, List.setIfInBounds_toArray, List.set_cons_zero, List.set_cons_succ])
    refine wpAnyH_take (i := 14) (oi := ⟨some 43, _, _, _, _, _⟩) (v := ?_) rfl (by kernel_rfl) (by kernel_rfl) (by kernel_rfl) (fun _ _ _ h => h) (Or.inl ⟨by rfl, ?_⟩) (by assumption) ?_
    rotate_left
    · intro W hW; (try dsimp only at hW); go_simp <;> with_reducible rfl
    (try simp only [Act.put, List.setIfInBounds_toArray, List.set_cons_zero, List.set_cons_succ])
    refine wpAnyH_take (i := 15) (oi := ⟨some 44, _, _, _, _, _⟩) (v := ?_) rfl (by kernel_rfl) (by kernel_rfl) (by kernel_rfl) (fun _ _ _ h => h) (Or.inl ⟨by rfl, ?_⟩) (by assumption) ?_
    rotate_left
    · intro W hW; (try dsimp only at hW); go_simp <;> with_reducible rfl
    (try simp only [Act.put, List.setIfInBounds_toArray, List.set_cons_zero, List.set_cons_succ])
    refine wpAnyH_take (i := 16) (oi := ⟨some 45, _, _, _, _, _⟩) (v := ?_) rfl (by kernel_rfl) (by kernel_rfl) (by kernel_rfl) (fun _ _ _ h => h) (Or.inl ⟨by rfl, ?_⟩) (by assumption) ?_
    rotate_left
    · intro W hW; (try dsimp only at hW); go_simp <;> with_reducible rfl
    (try simp only [Act.put, List.setIfInBounds_toArray, List.set_cons_zero, List.set_cons_succ])
    refine wpAnyH_take (i := 17) (oi := ⟨some 46, _, _, _, _, _⟩) (v := ?_) rfl (by kernel_rfl) (by kernel_rfl) (by kernel_rfl) (fun _ _ _ h => h) (Or.inl ⟨by rfl, ?_⟩) (by assumption) ?_
    rotate_left
    · intro W hW; (try dsimp only at hW); go_simp <;> with_reducible rfl
    (try simp only [Act.put, List.setIfInBounds_toArray, List.set_cons_zero, List.set_cons_succ])
    refine wpAnyH_take (i := 19) (oi := ⟨some 48, _, _, _, _, _⟩) (v := ?_) rfl (by kernel_rfl) (by kernel_rfl) (by kernel_rfl) (fun _ _ _ h => h) (Or.inl ⟨by rfl, ?_⟩) (by assumption) ?_
    rotate_left
    · intro W hW; (try dsimp only at hW); go_simp <;> with_reducible rfl
    (try simp only [Act.put, List.setIfInBounds_toArray, List.set_cons_zero, List.set_cons_succ])
    refine wpAnyH_take (i := 20) (oi := ⟨some 49, _, _, _, _, _⟩) (v := ?_) rfl (by kernel_rfl) (by kernel_rfl) (by kernel_rfl) (fun _ _ _ h => h) (Or.inl ⟨by rfl, ?_⟩) (by assumption) ?_
    rotate_left
    · intro W hW; (try dsimp only at hW); go_simp <;> with_reducible rfl
    (try simp only [Act.put, List.setIfInBounds_toArray, List.set_cons_zero, List.set_cons_succ])
    refine wpAnyH_take (i := 21) (oi := ⟨some 50, _, _, _, _, _⟩) (v := ?_) rfl (by kernel_rfl) (by kernel_rfl) (by kernel_rfl) (fun _ _ _ h => h) (Or.inl ⟨by rfl, ?_⟩) (by assumption) ?_
    rotate_left
    · intro W hW; (try dsimp only at hW); go_simp <;> with_reducible rfl
    (try simp only [Act.put, List.setIfInBounds_toArray, List.set_cons_zero, List.set_cons_succ])
    refine wpAnyH_take (i := 22) (oi := ⟨some 51, _, _, _, _, _⟩) (v := ?_) rfl (by kernel_rfl) (by kernel_rfl) (by kernel_rfl) (fun _ _ _ h => h) (Or.inl ⟨by rfl, ?_⟩) (by assumption) ?_
    rotate_left
    · intro W hW; (try dsimp only at hW); go_simp <;> with_reducible rfl
    (try simp only [Act.put, List.setIfInBounds_toArray, List.set_cons_zero, List.set_cons_succ])
    refine wpAnyH_take (i := 23) (oi := ⟨some 52, _, _, _, _, _⟩) (v := ?_) rfl (by kernel_rfl) (by kernel_rfl) (by kernel_rfl) (fun _ _ _ h => h) (Or.inl ⟨by rfl, ?_⟩) (by assumption) ?_
    rotate_left
    · intro W hW; (try dsimp only at hW); go_simp <;> with_reducible rfl
    (try simp only [Act.put, List.setIfInBounds_toArray, List.set_cons_zero, List.set_cons_succ])
    refine wpAnyH_take (i := 24) (oi := ⟨some 53, _, _, _, _, _⟩) (v := ?_) rfl (by kernel_rfl) (by kernel_rfl) (by kernel_rfl) (fun _ _ _ h => h) (Or.inl ⟨by rfl, ?_⟩) (by assumption) ?_
    rotate_left
    · intro W hW; (try dsimp only at hW); go_simp <;> with_reducible rfl
    (try simp only [Act.put, List.setIfInBounds_toArray, List.set_cons_zero, List.set_cons_succ])
    refine wpAnyH_take (i := 25) (oi := ⟨some 54, _, _, _, _, _⟩) (v := ?_) rfl (by kernel_rfl) (by kernel_rfl) (by kernel_rfl) (fun _ _ _ h => h) (Or.inl ⟨by rfl, ?_⟩) (by assumption) ?_
    rotate_left
    · intro W hW; (try dsimp only at hW); go_simp <;> with_reducible rfl
    (try simp only [Act.put, List.setIfInBounds_toArray, List.set_cons_zero, List.set_cons_succ])
    refine wpAnyH_take (i := 26) (oi := ⟨some 55, _, _, _, _, _⟩) (v := ?_) rfl (by kernel_rfl) (by kernel_rfl) (by kernel_rfl) (fun _ _ _ h => h) (Or.inl ⟨by rfl, ?_⟩) (by assumption) ?_
    rotate_left
    · intro W hW; (try dsimp only at hW); go_simp <;> with_reducible rfl
    (try simp only [Act.put, List.setIfInBounds_toArray, List.set_cons_zero, List.set_cons_succ])
    refine wpAnyH_take (i := 27) (oi := ⟨some 56, _, _, _, _, _⟩) (v := ?_) rfl (by kernel_rfl) (by kernel_rfl) (by kernel_rfl) (fun _ _ _ h => h) (Or.inl ⟨by rfl, ?_⟩) (by assumption) ?_
    rotate_left
    · intro W hW; (try dsimp only at hW); go_simp <;> with_reducible rfl
    (try simp only [Act.put, List.setIfInBounds_toArray, List.set_cons_zero, List.set_cons_succ])
    refine wpAnyH_take (i := 29) (oi := ⟨some 58, _, _, _, _, _⟩) (v := ?_) rfl (by kernel_rfl) (by kernel_rfl) (by kernel_rfl) (fun _ _ _ h => h) (Or.inl ⟨by rfl, ?_⟩) (by assumption) ?_
    rotate_left
    · intro W hW; (try dsimp only at hW); go_simp <;> with_reducible rfl
    (try simp only [Act.put, List.setIfInBounds_toArray, List.set_cons_zero, List.set_cons_succ])
    refine wpAnyH_take (i := 30) (oi := ⟨some 59, _, _, _, _, _⟩) (v := ?_) rfl (by kernel_rfl) (by kernel_rfl) (by kernel_rfl) (fun _ _ _ h => h) (Or.inl ⟨by rfl, ?_⟩) (by assumption) ?_
    rotate_left
    · intro W hW; (try dsimp only at hW); go_simp <;> with_reducible rfl
    (try simp only [Act.put, List.setIfInBounds_toArray, List.set_cons_zero, List.set_cons_succ])
    refine wpAnyH_take (i := 31) (oi := ⟨some 60, _, _, _, _, _⟩) (v := ?_) rfl (by kernel_rfl) (by kernel_rfl) (by kernel_rfl) (fun _ _ _ h => h) (Or.inl ⟨by rfl, ?_⟩) (by assumption) ?_
    rotate_left
    · intro W hW; (try dsimp only at hW); go_simp <;> with_reducible rfl
    (try simp only [Act.put, List.setIfInBounds_toArray, List.set_cons_zero, List.set_cons_succ])
    refine wpAnyH_ready (rs := [18]) (by kernel_rfl) (by simp) ?_
    refine AllReadyH.cons (o := ⟨some 47, _, _, _, _, _⟩) rfl (fun K hK => ?_) AllReadyH.nil
    go_simp
    refine hK.out _ _ hHeld (fun hHeld => ?_)
    clear hK K
    (try simp only [Act.put, List.setIfInBounds_toArray, List.set_cons_zero, List.set_cons_succ])
    refine wpAnyH_ready (rs := [28]) (by kernel_rfl) (by simp) ?_
    refine AllReadyH.cons (o := ⟨some 57, _, _, _, _, _⟩) rfl (fun K hK => ?_) AllReadyH.nil
    go_simp
    go_at_call 110
    refine (key_q B _ _ _ A ⟨#[109, 101, 115, 115, 97, 103, 101]⟩ _ (show OwnB wr.drew _ _ _ from H.out.1.2.1) H.out.1.2.2.2 (by omega) H.out.2.2.2.1 (by simp [ByteArray.size]) hB).mono ?_
    rintro e w6 ⟨A6, n6, cp6, T6, rfl, h6, t1, t2⟩
    have hE6 := h6.2.2.1 _ _ _ (show Blk wr.drew _ _ _ from H.out.1.1) (by decide)
    have hC6 := (show Cf wr.drew cf g from H.out.2.1).e h6.2.2.1.e
    have d6 := hE6.cell 6
    simp at d6
    have d15 := hC6.c15
    have d2 := hC6.c2
    have hB6 : B ≤ w6.heap.size := Nat.le_trans hB h6.2.2.2
    have H6 := Lib.hid (And.intro h6 (And.intro hE6 hC6))
    clear h6 hE6 hC6
    refine hK.out _ _ ⟨d6, d15, d2⟩ (fun hHeld => ?_)
    clear hK K
    (try simp only [Act.put, List.setIfInBounds_toArray, List.set_cons_zero, List.set_cons_succ])
    refine wpAnyH_ready (rs := [32]) (by kernel_rfl) (by simp) ?_
    refine AllReadyH.cons (o := ⟨some 61, _, _, _, _, _⟩) rfl (fun K hK => ?_) AllReadyH.nil
    go_simp
    go_at_call 115
    refine (string_q B _ _ _ T6 s _ H6.out.1.1 (by omega) H.out.2.2.1 hxs hB6).mono ?_
    rintro e w8 ⟨A8, n8, cp8, T8, rfl, h8, u1, u2⟩
    have hE8 := h8.2.2.1 _ _ _ H6.out.2.1 (by decide)
    have hC8 := H6.out.2.2.e h8.2.2.1.e
    have i0 := hE8.cell 0
    have i6 := hE8.cell 6
    have f0 := hE8.frozen 0
    simp at i0 i6
    have i15 := hC8.c15
    have i2 := hC8.c2
    obtain ⟨q1, q2, q3⟩ := evs_put (show EvS wr.drew B ev cf b l (.slice P n c) A from H.out.1) H6.out.1 h8 u1
    have j6 := q1.1.cell 6
    simp at j6
    have hC9 := H.out.2.1.e q2
    have j15 := hC9.c15
    have j2 := hC9.c2
    have HQ := Lib.hid (And.intro q1 (And.intro hC9 (And.intro q2 q3)))
    clear q1 q2 q3 h8 hE8 hC8 hC9
    refine hK.out _ _ ⟨i6, i15, i2⟩ (fun hHeld => ?_)
    clear hK K
    (try simp only [Act.put, List.setIfInBounds_toArray, List.set_cons_zero, List.set_cons_succ])
    refine wpAnyH_take (i := 33) (oi := ⟨some 62, _, _, _, _, _⟩) (v := ?_) rfl (by kernel_rfl) (by kernel_rfl) (by kernel_rfl) (fun _ _ _ h => h) (Or.inl ⟨by rfl, ?_⟩) (by assumption) ?_
    rotate_left
    · intro W hW; (try dsimp only at hW); go_simp <;> with_reducible rfl
    (try simp only [Act.put, List.setIfInBounds_toArray, List.set_cons_zero, List.set_cons_succ])
    refine wpAnyH_take (i := 34) (oi := ⟨some 63, _, _, _, _, _⟩) (v := ?_) rfl (by kernel_rfl) (by kernel_rfl) (by kernel_rfl) (fun _ _ _ h => h) (Or.inl ⟨by rfl, ?_⟩) (by assumption) ?_
    rotate_left
    · intro W hW; (try dsimp only at hW); go_simp <;> with_reducible rfl
    (try simp only [Act.put, List.setIfInBounds_toArray, List.set_cons_zero, List.set_cons_succ])
    refine wpAnyH_ready (rs := [35]) (by kernel_rfl) (by simp) ?_
    refine AllReadyH.cons (o := ⟨none, _, _, _, _, _⟩) rfl (fun K hK => ?_) AllReadyH.nil
    go_simp
    refine hK.out _ _ ⟨j6, j15, j2⟩ (fun hHeld => ?_)
    clear hK K
    (try simp only [Act.put, List.setIfInBounds_toArray, List.set_cons_zero, List.set_cons_succ])
    refine wpAnyH_done (by kernel_rfl) ?_ _
    refine gen_exit (R := fun W => EvS W B ev cf b l (.slice A8 n8 cp8) T8 ∧ Cf W cf g ∧ Sink W Bs b (.slice none 0 0) [] ∧ Below Bs wr W ∧ B ≤ W.heap.size) ⟨HQ.out.1, HQ.out.2.1, H.out.2.2.2.2.kpe HQ.out.2.2.1, ((Below.refl Bs wr).drew).trans (HQ.out.2.2.2.mono hBs), Nat.le_trans hB HQ.out.2.2.2.size⟩ ?_
    rintro w7 ⟨r1, r2, r3, r4, r5⟩
    clear HQ hHeld d6 d15 d2 e0 e4 e6 c15 c2 i0 i6 f0 i15 i2 j6 j15 j2
    have H7 := Lib.hid (And.intro r1 (And.intro r2 (And.intro r3 r4)))
    clear r1 r2 r3 r4
    go_wp2_with (go_at_call 26; refine (write_any Bs B ev cf b n8 cp8 g l A8 T8 _ H7.out.1 H7.out.2.1 H7.out.2.2.1 (by omega) r5 hBs hl7).mono ?_; rintro e w9 ⟨rfl, h9⟩; have H9 := Lib.hid h9; clear h9)
    exact bodyPost_end (results_none rfl _ _ _) rfl ⟨rfl, H9.out.1, H7.out.2.2.2.trans H9.out.2⟩
set_option maxRecDepth 100000 in
theorem msg_nil (s : ByteArray) (w : World) : Calls Tryz.prog 10 #[.pointer none, .string s] w fun e w' => e = .returned (.tuple #[]) ∧ w = w' := by
  go_enter Tryz.func10, Tryz.ntmps10
  go_wp2
  exact bodyPost_ret (results_none rfl _ _ _) rfl ⟨rfl, rfl⟩
set_option maxRecDepth 100000 in
theorem msg_some (R : World → Prop) (ev : Nat) (s : ByteArray) (w : World) (h : Calls Tryz.prog 20 #[.pointer (some ⟨ev, 0, none⟩), .string s] w fun e w' => e = .returned (.tuple #[]) ∧ R w') : Calls Tryz.prog 10 #[.pointer (some ⟨ev, 0, none⟩), .string s] w fun e w' => e = .returned (.tuple #[]) ∧ R w' := by
  have H := Lib.hid h
  clear h
  go_enter Tryz.func10, Tryz.ntmps10
  go_wp2_with (go_at_call 20; refine H.out.mono ?_; rintro e w9 ⟨rfl, h9⟩; have H9 := Lib.hid h9; clear h9)
  exact bodyPost_end (results_none rfl _ _ _) rfl ⟨rfl, H9.out⟩
end Go.Proofs.YtdbnconphcaclaaGreatDoor
