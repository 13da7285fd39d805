/-
  FnLogLevels: the row and the tied card, out of the walk in LevelsWalk. The frame follows the guide's own worked cards.
-/
import Derived.Test.YtdndjkdcmbifjaaDoorCards
import Derived.Test.YtdndjkdcmbifjaaDoorTie
import Derived.Test.YtdndjkdcmbifjaaDoorLevelsWalk
import Derived.WalkKit
import Derived.ProofKit
import Derived.OpenShut
import Derived.ShutString
import Derived.ChangeOld
import Derived.Below
import Derived.LaidMore
import Derived.SevenTiedAt
namespace Go.Proofs.YtdndjkdcmbifjaaDoor.fnLogLevels
open Go.ChangeShapes Go.WideShapes Go.ChangeAt Go.RowKit
open Go.ChangeMaps (open_string shut_string)
set_option linter.unusedVariables false

theorem own : ownKnob Tryd.prog.godebug = none := by kernel_rfl
theorem laidOut : laidOutB Tryd.prog = true := by kernel_rfl

/-- The door's own heap meets the condition. -/
theorem door_met (os : Os) (args : Array Value) : laidMetH Tryd.prog Rows.fnLogLevelsRow.laid ((World.doorLaid Tryd.prog 62 os).forCall (fun _ _ => 0) ⟨#[], args, []⟩).memory :=
  laidMetH_of_parts3 (fuel := 8) (laidMet_of_run' 8 (by kernel_rfl) (by kernel_rfl)) (by kernel_rfl) (by kernel_rfl)

set_option maxRecDepth 100000 in
theorem lifted (os : Os) (started : os.Started) (H : Type) (enc : TypeId × Value → H) :
    ReturnsInHanded {} Tryd.checked os 5 .any (fun w args => (Rows.fnLogLevelsSpec.pre enc Tryd.prog Tryd.f5 [] false w args ∧ laidMetH Tryd.prog Rows.fnLogLevelsRow.laid w) ∧ sizedMet enc Tryd.prog Tryd.f5 (OpenSpec.ofChange Rows.fnLogLevelsSpec) false w args)
      (Rows.fnLogLevelsSpec.post enc Tryd.prog Tryd.f5 false true false false) := by
  refine returnsInHanded_of_change_and (C := Tryd.checked) (X := fun w _ => laidMetH Tryd.prog Rows.fnLogLevelsRow.laid w) (fun _ _ _ hh h => h.of_heap hh) own started (by kernel_rfl) Tryd.func5
    (ChangeSpec.witness_shaped (enc := enc) (C := Tryd.checked) (os := os) (X := fun w _ => laidMetH Tryd.prog Rows.fnLogLevelsRow.laid w) false (World.doorLaid Tryd.prog 62 os) #[.agg #[.int .u32 0, .int .u32 0, .int .u32 0, .int .u32 0, .int .u32 0], .slice none 0 0] 8 rfl (World.shaped_of_RefB (by kernel_rfl) (by kernel_rfl)) (by kernel_rfl) (by kernel_rfl) (by kernel_rfl) (door_met os _)) ?_
  intro W base args ds gs before hval0 hW _ hsz hL _
  have hval : ∀ (j : Nat) t v, Tryd.f5.params[j]? = some t → args[j]? = some v → Value.okWide Tryd.prog W .any base t v := hval0
  have hW' := hW
  obtain ⟨p, q, hA0, hV, rfl, hfz, hnd⟩ := hW
  have hA : DataW.TrodAll enc Tryd.prog W 0 (fun _ => true) true Tryd.f5.params.toList args.toList ds p := hA0
  rw [Tryd.params5] at hA hval
  obtain ⟨v0, vs0, d0, ds0, p0, q0, hargs, rfl, rfl, h0, r0⟩ := trodAll_cons hA
  obtain ⟨v1, vs1, d1, ds1, p1, q1, rfl, rfl, rfl, h1, r1⟩ := trodAll_cons r0
  obtain ⟨rfl, rfl, rfl⟩ := trodAll_nil r1
  obtain rfl : args = #[v0, v1] := by cases args; simp_all
  obtain ⟨rfl, rfl⟩ := trodVars_none hV
  have k0 := h0
  have lt0 : ∀ x ∈ p0, x.block < W.heap.size := by obtain ⟨m, hm⟩ := k0; exact DataW.trod_lt m _ _ _ hm
  obtain ⟨cs0, rfl, hsz0, _⟩ : ∃ cs, v0 = .agg cs ∧ cs.size = Tryd.prog.cellsOf 35 ∧ Row.okWide Tryd.prog W .any base 35 cs := by
    have := hval 0 35 v0 rfl rfl
    simpa [Value.okWide, Tryd.underlying35] using this
  have hcells : Tryd.prog.cellsOf 35 = 5 := by kernel_rfl
  have hcells1 : Tryd.prog.cellsOf 29 = 1 := by kernel_rfl
  rw [hcells] at hsz0
  obtain ⟨l0⟩ := cs0
  obtain ⟨c0, c1, c2, c3, c4, rfl⟩ := list5 l0 hsz0
  obtain ⟨fuel, hf⟩ := h0
  obtain ⟨xs, mf, rfl, _, _, hxn, hel⟩ := DataW.trod_array Tryd.underlying35 hf
  obtain ⟨y0, y1, y2, y3, y4, rfl⟩ := list5 xs hxn
  rw [hcells1] at hel
  have g0 := hel 0 (by decide)
  obtain ⟨x0, e0, _, u0⟩ := DataW.trod_int Tryd.underlying29 (show DataW.trod enc Tryd.prog W 0 _ true mf 29 [c0] = some y0 from g0)
  have g1 := hel 1 (by decide)
  obtain ⟨x1, e1, _, u1⟩ := DataW.trod_int Tryd.underlying29 (show DataW.trod enc Tryd.prog W 0 _ true mf 29 [c1] = some y1 from g1)
  have g2 := hel 2 (by decide)
  obtain ⟨x2, e2, _, u2⟩ := DataW.trod_int Tryd.underlying29 (show DataW.trod enc Tryd.prog W 0 _ true mf 29 [c2] = some y2 from g2)
  have g3 := hel 3 (by decide)
  obtain ⟨x3, e3, _, u3⟩ := DataW.trod_int Tryd.underlying29 (show DataW.trod enc Tryd.prog W 0 _ true mf 29 [c3] = some y3 from g3)
  have g4 := hel 4 (by decide)
  obtain ⟨x4, e4, _, u4⟩ := DataW.trod_int Tryd.underlying29 (show DataW.trod enc Tryd.prog W 0 _ true mf 29 [c4] = some y4 from g4)
  simp at e0 e1 e2 e3 e4
  subst e0 e1 e2 e3 e4
  have k1 := h1
  have lt1 : ∀ x ∈ p1, x.block < W.heap.size := by obtain ⟨m, hm⟩ := k1; exact DataW.trod_lt m _ _ _ hm
  obtain ⟨a1, len1, cap1, rfl⟩ := okWide_slice Tryd.underlying36 (hval 1 36 v1 rfl rfl)
  obtain ⟨z1, w1⟩ : ∃ zs, IsRow .i64 W a1 len1 cap1 zs := by
    obtain ⟨fuel, hf⟩ := h1
    rcases open_ints Tryd.underlying36 Tryd.underlying3 (by kernel_rfl) hf with ⟨hcs, _⟩ | ⟨x, l, c, zs, hcs, _, hl, hm, hz, _, hcell, hwz⟩
    · simp [Value.cells] at hcs
      obtain ⟨rfl, rfl, rfl⟩ := hcs
      exact ⟨[], .inl ⟨rfl, rfl, rfl, rfl⟩⟩
    · simp [Value.cells] at hcs
      obtain ⟨rfl, rfl, rfl⟩ := hcs
      exact ⟨zs, .inr ⟨_, rfl, hl, hm, by simpa using hz, hcell, hwz⟩⟩
  clear hA0 hval0
  refine (levels_law5 x0 x1 x2 x3 x4 a1 len1 cap1 z1 (bounds_u32 u0) (bounds_u32 u1) (bounds_u32 u2) (bounds_u32 u3) (bounds_u32 u4) W w1).mono fun e W' ⟨he, bel⟩ => ?_
  subst he
  exact ⟨_, rfl, _, _, _, [], _, [], hW', trodAll_mk1 (shut_bool Tryd.underlying4 _), (trodAll_cons_mk (Below.trod laidOut (by kernel_rfl) (of_decide_eq_true (by kernel_rfl)) k0 bel lt0) (trodAll_cons_mk (Below.trod laidOut (by kernel_rfl) (of_decide_eq_true (by kernel_rfl)) k1 bel lt1) trodAll_mk0)), rfl, bel.frame _, fun h => by cases h⟩

theorem said : Rows.FnLogLevelsSaid :=
  OpenClaim.holds_of_wide 5 Tryd.f5 rfl rfl rfl rfl rfl rfl rfl ⟨rfl, rfl, rfl, rfl, rfl⟩ rfl rfl rfl rfl rfl (by kernel_rfl) Tryd.func5 (by kernel_rfl)
    (of_decide_eq_true (by kernel_rfl)) (by unfold Func.isWrapper; first | (rw [if_pos (by decide +kernel)]; kernel_rfl) | (rw [if_neg (by decide +kernel)]; exact ⟨rfl, rfl⟩))
    (fun os started H enc _ => lifted os started H enc)

/-- No parameter wants a stand-in; the program's looks are the card's. -/
theorem plain (f : FuncId) (fn : Func) (hf : Tryd.pinned.checked.prog.funcNamed "given.example/pub-chandler/laws.FnLogLevels" = some f) (hfn : Tryd.pinned.checked.prog.funcs[f]? = some fn) :
    true = Tryd.pinned.checked.prog.looks [] ∧ ∀ (j : Nat) t, fn.params[j]? = some t → Tryd.pinned.checked.prog.wantsStandIn t = false := by
  obtain rfl : f = 5 := Option.some.inj ((show Tryd.prog.funcNamed "given.example/pub-chandler/laws.FnLogLevels" = some 5 by kernel_rfl).symm.trans hf) |>.symm
  obtain rfl : fn = Tryd.f5 := (Option.some.inj (Tryd.func5.symm.trans hfn)).symm
  refine ⟨by kernel_rfl, fun j t ht => ?_⟩
  rw [Tryd.params5] at ht
  have hm : t ∈ [35, 36] := by simpa using Array.mem_of_getElem? ht
  have hall : ([35, 36].all fun u => !Tryd.prog.wantsStandIn u) = true := by kernel_rfl
  exact (show Tryd.prog.wantsStandIn t = false by simpa using List.all_eq_true.1 hall t hm)

/-- THE CARD. -/
theorem card : Rows.FnLogLevelsCardSaid :=
  Claim7.holds_tied_plain_at .later [] _ _ _ _ said (fun _ h => by cases h) (by kernel_rfl) (fun _ h => by cases h) fnLogLevels_row_tie rfl ⟨rfl, rfl⟩ (by kernel_rfl) rfl plain (by kernel_rfl)
#print axioms card
end Go.Proofs.YtdndjkdcmbifjaaDoor.fnLogLevels
