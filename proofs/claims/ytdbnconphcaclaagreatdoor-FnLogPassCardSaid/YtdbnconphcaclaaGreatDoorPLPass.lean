/-
  impl.LPass: a logger of a level writes an event of a level, while there is a global level. Conditions: levels from -1 to 7.
-/
import Derived.Test.YtdbnconphcaclaaGreatDoorPLog
import Derived.Stop.Asserts
namespace Go.Proofs.YtdbnconphcaclaaGreatDoor
open Go.RowKit
set_option linter.unusedVariables false

def cfCells : Array Value := #[.string ⟨#[116, 105, 109, 101]⟩, .string ⟨#[108, 101, 118, 101, 108]⟩, .string ⟨#[109, 101, 115, 115, 97, 103, 101]⟩, .string ⟨#[101, 114, 114, 111, 114]⟩, .string ⟨#[50, 48, 48, 54, 45, 48, 49, 45, 48, 50, 84, 49, 53, 58, 48, 52, 58, 48, 53, 90, 48, 55, 58, 48, 48]⟩, .string ⟨#[102, 108, 111, 97, 116]⟩, .int .i64 1000000, .bool false, .int .i64 (-1), .int .i8 0, .bool false, .int .i64 0, .int .i32 0, .string ⟨#[]⟩, .int .i64 0, .iface 56 (.agg #[]), .bool false]
set_option maxRecDepth 100000 in
theorem defaults_any (w : World) : Calls Tryz.prog 6 #[] w fun e w' => e = .returned (.pointer (some ⟨w.heap.size, 0, none⟩)) ∧ Blk w' w.heap.size 38 cfCells ∧ Below w.heap.size w w' := by
  go_enter Tryz.func6, Tryz.ntmps6
  go_wp2
  go_ret
  exact ⟨rfl, Blk.new w _ _, (Below.refl _ w).alloc (Nat.le_refl _) _⟩
theorem assert_lines (a : Addr) (w : World) : (Instr.typeAssert (.iface 24 (.pointer (some a))) 58 40 true).run Tryz.prog w = .ok (.tuple #[.nilIface, .bool false]) w := run_typeAssert_lacksB Tryz.underlying40 (by kernel_rfl) (by kernel_rfl) _ _ w
def lgV (b cf : Nat) (l : Int) : Value := .agg #[.iface 62 (.agg #[.iface 24 (.pointer (some ⟨b, 0, none⟩))]), .int .i8 l, .nilIface, .slice none 0 0, .slice none 0 0, .bool false, .pointer (some ⟨cf, 0, none⟩)]
set_option maxRecDepth 100000 in
theorem new_any (b cf : Nat) (w : World) : Calls Tryz.prog 7 #[.iface 24 (.pointer (some ⟨b, 0, none⟩)), .pointer (some ⟨cf, 0, none⟩)] w fun e w' => e = .returned (lgV b cf (-1)) ∧ Below w.heap.size w w' := by
  have has := assert_lines ⟨b, 0, none⟩
  have hr : Tryz.f7.results = #[.cell 4 46] := rfl
  go_enter Tryz.func7, Tryz.ntmps7
  go_wp2
  refine bodyPost_ret (v := lgV b cf (-1)) ?_ rfl ⟨rfl, (Below.refl _ w).alloc (Nat.le_refl _) _⟩
  unfold results lgV
  rw [hr]
  go_simp
set_option maxRecDepth 100000 in
theorem lev_any (b cf : Nat) (l0 l : Int) (w : World) : Calls Tryz.prog 8 #[lgV b cf l0, .int .i8 l] w fun e w' => e = .returned (lgV b cf l) ∧ Below w.heap.size w w' := by
  unfold lgV
  have hr : Tryz.f8.results = #[.cell 4 46] := rfl
  go_enter Tryz.func8, Tryz.ntmps8
  go_wp2
  refine bodyPost_ret (v := lgV b cf l) ?_ rfl ⟨rfl, ((Below.refl _ w).alloc (Nat.le_refl _) _).alloc (by simp) _⟩
  unfold results lgV
  rw [hr]
  go_simp
end Go.Proofs.YtdbnconphcaclaaGreatDoor
