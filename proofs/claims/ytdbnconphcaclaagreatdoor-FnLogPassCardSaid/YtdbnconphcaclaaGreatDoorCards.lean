/-
  DERIVED. GIVEN WITH THE SEED: THE CARDS: each row of YtdbnconphcaclaaGreatDoorRows.lean that lists a variable, with what it lists TIED to the program's text (the seventh form; the later family's looks); each row that meets fmt, with fmt's text TOLD by the authors' own Lean function (tested against real Go, not proved from fmt's source: count such statements apart). THE CARD IS WHAT COUNTS. Prove the row's statement (the work); the ties are given (YtdbnconphcaclaaGreatDoorTie.lean); close each card by the builder's one call (the guide's Derived/Test/ToyasCard.lean, 'card_holds'). Laid BY PROGRAM, IN A SANDBOX (cutbox-door.mjs). By AI agents, Wed Nov 11 2026. No macro, syntax, notation, axiom, sorry.
-/
import Derived.Test.YtdbnconphcaclaaGreatDoorRows
import GoSem.ClaimSeven
namespace Go.Proofs.YtdbnconphcaclaaGreatDoor
namespace Rows

/-- THE TIED CARD OF 'laws.FnLogPass'. -/
def fnLogPassCard : Claim7 := { stood := { row := fnLogPassRow, standIns := [], harness := (true, "14f3f83a77b139ff1ee83d079481f3c79fdf5bcc5a2902b198d4145a6b7258e5"), looks := true }, kinds := [], alts := [], laidByText := true, laidKinds := [.data, .data, .data, .sentinel, .sentinel], laidTests := true, laidLooks := .later }
def FnLogPassCardSaid : Prop := Claim7.holds Tryz.pinned (.plain (OpenSpec.ofChange fnLogPassSpec)) fnLogPassCard

/-- THE SECOND FORM's CARD OF 'laws.FnLogPass'. -/
def fnLogPassUptoCard : Claim7 := { stood := { row := fnLogPassUptoRow, standIns := [], harness := (true, "14f3f83a77b139ff1ee83d079481f3c79fdf5bcc5a2902b198d4145a6b7258e5"), looks := true }, kinds := [], alts := [], laidByText := true, laidKinds := [.data, .data, .data, .sentinel, .sentinel], laidTests := true, laidLooks := .later }
def FnLogPassUptoCardSaid : Prop := Claim7.holds Tryz.pinned (.plain (OpenSpec.upto fnLogPassSpec)) fnLogPassUptoCard
end Rows
end Go.Proofs.YtdbnconphcaclaaGreatDoor
