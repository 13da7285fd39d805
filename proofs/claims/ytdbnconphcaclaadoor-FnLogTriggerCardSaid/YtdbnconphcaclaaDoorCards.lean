/-
  DERIVED. GIVEN WITH THE SEED: THE CARDS: each row of YtdbnconphcaclaaDoorRows.lean that lists a variable, with what it lists TIED to the program's text (the seventh form; the later family's looks); each row that meets fmt, with fmt's text TOLD by the authors' own Lean function (tested against real Go, not proved from fmt's source: count such statements apart). THE CARD IS WHAT COUNTS. Prove the row's statement (the work); the ties are given (YtdbnconphcaclaaDoorTie.lean); close each card by the builder's one call (the guide's Derived/Test/ToyasCard.lean, 'card_holds'). Laid BY PROGRAM, IN A SANDBOX (cutbox-door.mjs). By AI agents, Wed Nov 11 2026. No macro, syntax, notation, axiom, sorry.
-/
import Derived.Test.YtdbnconphcaclaaDoorRows
import GoSem.ClaimSeven
namespace Go.Proofs.YtdbnconphcaclaaDoor
namespace Rows

/-- THE TIED CARD OF 'laws.FnLogSpan'. -/
def fnLogSpanCard : Claim7 := { stood := { row := fnLogSpanRow, standIns := [], harness := (true, "e845cc8dc5eb1d8f65fb6d8d43c3485514111303cea408afcedc4ff402516675"), looks := true }, kinds := [], alts := [], laidByText := true, laidKinds := [.data, .data, .data, .sentinel, .sentinel], laidTests := true, laidLooks := .later }
def FnLogSpanCardSaid : Prop := Claim7.holds Tryd.pinned (.plain (OpenSpec.ofChange fnLogSpanSpec)) fnLogSpanCard

/-- THE TIED CARD OF 'laws.FnLogStringApart'. -/
def fnLogStringApartCard : Claim7 := { stood := { row := fnLogStringApartRow, standIns := [], harness := (true, "e845cc8dc5eb1d8f65fb6d8d43c3485514111303cea408afcedc4ff402516675"), looks := true }, kinds := [], alts := [], laidByText := true, laidKinds := [.data, .data, .data, .data, .sentinel, .sentinel, .pinned], laidTests := true, laidLooks := .later }
def FnLogStringApartCardSaid : Prop := Claim7.holds Tryd.pinned (.plain (OpenSpec.ofChange fnLogStringApartSpec)) fnLogStringApartCard

/-- THE TIED CARD OF 'laws.FnLogStringPlain'. -/
def fnLogStringPlainCard : Claim7 := { stood := { row := fnLogStringPlainRow, standIns := [], harness := (true, "e845cc8dc5eb1d8f65fb6d8d43c3485514111303cea408afcedc4ff402516675"), looks := true }, kinds := [], alts := [], laidByText := true, laidKinds := [.data, .data, .data, .data, .sentinel, .sentinel, .pinned], laidTests := true, laidLooks := .later }
def FnLogStringPlainCardSaid : Prop := Claim7.holds Tryd.pinned (.plain (OpenSpec.ofChange fnLogStringPlainSpec)) fnLogStringPlainCard

/-- THE TIED CARD OF 'laws.FnLogString'. -/
def fnLogStringCard : Claim7 := { stood := { row := fnLogStringRow, standIns := [], harness := (true, "e845cc8dc5eb1d8f65fb6d8d43c3485514111303cea408afcedc4ff402516675"), looks := true }, kinds := [], alts := [], laidByText := true, laidKinds := [.data, .data, .data, .data, .sentinel, .sentinel, .pinned], laidTests := true, laidLooks := .later }
def FnLogStringCardSaid : Prop := Claim7.holds Tryd.pinned (.plain (OpenSpec.ofChange fnLogStringSpec)) fnLogStringCard

/-- THE TIED CARD OF 'laws.FnLogMoment'. -/
def fnLogMomentCard : Claim7 := { stood := { row := fnLogMomentRow, standIns := [], harness := (true, "e845cc8dc5eb1d8f65fb6d8d43c3485514111303cea408afcedc4ff402516675"), looks := true }, kinds := [], alts := [], laidByText := true, laidKinds := [.data, .data, .data, .data, .data, .data, .sentinel, .sentinel], laidTests := true, laidLooks := .later }
def FnLogMomentCardSaid : Prop := Claim7.holds Tryd.pinned (.plain (OpenSpec.ofChange fnLogMomentSpec)) fnLogMomentCard

/-- THE TIED CARD OF 'laws.FnLogMulti'. -/
def fnLogMultiCard : Claim7 := { stood := { row := fnLogMultiRow, standIns := [], harness := (true, "e845cc8dc5eb1d8f65fb6d8d43c3485514111303cea408afcedc4ff402516675"), looks := true }, kinds := [], alts := [], laidByText := true, laidKinds := [.data, .data, .data, .sentinel, .sentinel], laidTests := true, laidLooks := .later }
def FnLogMultiCardSaid : Prop := Claim7.holds Tryd.pinned (.plain (OpenSpec.ofChange fnLogMultiSpec)) fnLogMultiCard

/-- THE TIED CARD OF 'laws.FnLogTrigger'. -/
def fnLogTriggerCard : Claim7 := { stood := { row := fnLogTriggerRow, standIns := [], harness := (true, "e845cc8dc5eb1d8f65fb6d8d43c3485514111303cea408afcedc4ff402516675"), looks := true }, kinds := [], alts := [], laidByText := true, laidKinds := [.data, .data, .data, .sentinel, .sentinel, .sentinel], laidTests := true, laidLooks := .later }
def FnLogTriggerCardSaid : Prop := Claim7.holds Tryd.pinned (.plain (OpenSpec.ofChange fnLogTriggerSpec)) fnLogTriggerCard

/-- THE SECOND FORM's CARD OF 'laws.FnLogSpan'. -/
def fnLogSpanUptoCard : Claim7 := { stood := { row := fnLogSpanUptoRow, standIns := [], harness := (true, "e845cc8dc5eb1d8f65fb6d8d43c3485514111303cea408afcedc4ff402516675"), looks := true }, kinds := [], alts := [], laidByText := true, laidKinds := [.data, .data, .data, .sentinel, .sentinel], laidTests := true, laidLooks := .later }
def FnLogSpanUptoCardSaid : Prop := Claim7.holds Tryd.pinned (.plain (OpenSpec.upto fnLogSpanSpec)) fnLogSpanUptoCard

/-- THE SECOND FORM's CARD OF 'laws.FnLogStringApart'. -/
def fnLogStringApartUptoCard : Claim7 := { stood := { row := fnLogStringApartUptoRow, standIns := [], harness := (true, "e845cc8dc5eb1d8f65fb6d8d43c3485514111303cea408afcedc4ff402516675"), looks := true }, kinds := [], alts := [], laidByText := true, laidKinds := [.data, .data, .data, .data, .sentinel, .sentinel, .pinned], laidTests := true, laidLooks := .later }
def FnLogStringApartUptoCardSaid : Prop := Claim7.holds Tryd.pinned (.plain (OpenSpec.upto fnLogStringApartSpec)) fnLogStringApartUptoCard

/-- THE SECOND FORM's CARD OF 'laws.FnLogStringPlain'. -/
def fnLogStringPlainUptoCard : Claim7 := { stood := { row := fnLogStringPlainUptoRow, standIns := [], harness := (true, "e845cc8dc5eb1d8f65fb6d8d43c3485514111303cea408afcedc4ff402516675"), looks := true }, kinds := [], alts := [], laidByText := true, laidKinds := [.data, .data, .data, .data, .sentinel, .sentinel, .pinned], laidTests := true, laidLooks := .later }
def FnLogStringPlainUptoCardSaid : Prop := Claim7.holds Tryd.pinned (.plain (OpenSpec.upto fnLogStringPlainSpec)) fnLogStringPlainUptoCard

/-- THE SECOND FORM's CARD OF 'laws.FnLogString'. -/
def fnLogStringUptoCard : Claim7 := { stood := { row := fnLogStringUptoRow, standIns := [], harness := (true, "e845cc8dc5eb1d8f65fb6d8d43c3485514111303cea408afcedc4ff402516675"), looks := true }, kinds := [], alts := [], laidByText := true, laidKinds := [.data, .data, .data, .data, .sentinel, .sentinel, .pinned], laidTests := true, laidLooks := .later }
def FnLogStringUptoCardSaid : Prop := Claim7.holds Tryd.pinned (.plain (OpenSpec.upto fnLogStringSpec)) fnLogStringUptoCard

/-- THE SECOND FORM's CARD OF 'laws.FnLogMoment'. -/
def fnLogMomentUptoCard : Claim7 := { stood := { row := fnLogMomentUptoRow, standIns := [], harness := (true, "e845cc8dc5eb1d8f65fb6d8d43c3485514111303cea408afcedc4ff402516675"), looks := true }, kinds := [], alts := [], laidByText := true, laidKinds := [.data, .data, .data, .data, .data, .data, .sentinel, .sentinel], laidTests := true, laidLooks := .later }
def FnLogMomentUptoCardSaid : Prop := Claim7.holds Tryd.pinned (.plain (OpenSpec.upto fnLogMomentSpec)) fnLogMomentUptoCard

/-- THE SECOND FORM's CARD OF 'laws.FnLogMulti'. -/
def fnLogMultiUptoCard : Claim7 := { stood := { row := fnLogMultiUptoRow, standIns := [], harness := (true, "e845cc8dc5eb1d8f65fb6d8d43c3485514111303cea408afcedc4ff402516675"), looks := true }, kinds := [], alts := [], laidByText := true, laidKinds := [.data, .data, .data, .sentinel, .sentinel], laidTests := true, laidLooks := .later }
def FnLogMultiUptoCardSaid : Prop := Claim7.holds Tryd.pinned (.plain (OpenSpec.upto fnLogMultiSpec)) fnLogMultiUptoCard

/-- THE SECOND FORM's CARD OF 'laws.FnLogTrigger'. -/
def fnLogTriggerUptoCard : Claim7 := { stood := { row := fnLogTriggerUptoRow, standIns := [], harness := (true, "e845cc8dc5eb1d8f65fb6d8d43c3485514111303cea408afcedc4ff402516675"), looks := true }, kinds := [], alts := [], laidByText := true, laidKinds := [.data, .data, .data, .sentinel, .sentinel, .sentinel], laidTests := true, laidLooks := .later }
def FnLogTriggerUptoCardSaid : Prop := Claim7.holds Tryd.pinned (.plain (OpenSpec.upto fnLogTriggerSpec)) fnLogTriggerUptoCard
end Rows
end Go.Proofs.YtdbnconphcaclaaDoor
