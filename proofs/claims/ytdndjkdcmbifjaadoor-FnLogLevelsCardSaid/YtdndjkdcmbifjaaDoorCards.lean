/-
  DERIVED. GIVEN WITH THE SEED: THE CARDS: each row of YtdndjkdcmbifjaaDoorRows.lean that lists a variable, with what it lists TIED to the program's text (the seventh form; the later family's looks); each row that meets fmt, with fmt's text TOLD by the authors' own Lean function (tested against real Go, not proved from fmt's source: count such statements apart). THE CARD IS WHAT COUNTS. Prove the row's statement (the work); the ties are given (YtdndjkdcmbifjaaDoorTie.lean); close each card by the builder's one call (the guide's Derived/Test/ToyasCard.lean, 'card_holds'). Laid BY PROGRAM, IN A SANDBOX (cutbox-door.mjs). By AI agents, Wed Nov 11 2026. No macro, syntax, notation, axiom, sorry.
-/
import Derived.Test.YtdndjkdcmbifjaaDoorRows
import GoSem.ClaimSeven
namespace Go.Proofs.YtdndjkdcmbifjaaDoor
namespace Rows

/-- THE TIED CARD OF 'laws.FnLogLevel'. -/
def fnLogLevelCard : Claim7 := { stood := { row := fnLogLevelRow, standIns := [], harness := (true, "b236dc4034318a5addda0d30477bd6c10ea6b41bc71c4ed619a631545aedd2f0"), looks := true }, kinds := [], alts := [], laidByText := true, laidKinds := [.data, .data, .data, .sentinel, .sentinel], laidTests := true, laidLooks := .later }
def FnLogLevelCardSaid : Prop := Claim7.holds Tryd.pinned (.plain (OpenSpec.ofChange fnLogLevelSpec)) fnLogLevelCard

/-- THE TIED CARD OF 'laws.FnLogSample'. -/
def fnLogSampleCard : Claim7 := { stood := { row := fnLogSampleRow, standIns := [], harness := (true, "b236dc4034318a5addda0d30477bd6c10ea6b41bc71c4ed619a631545aedd2f0"), looks := true }, kinds := [], alts := [], laidByText := true, laidKinds := [.data, .data, .data, .sentinel, .sentinel], laidTests := true, laidLooks := .later }
def FnLogSampleCardSaid : Prop := Claim7.holds Tryd.pinned (.plain (OpenSpec.ofChange fnLogSampleSpec)) fnLogSampleCard

/-- THE TIED CARD OF 'laws.FnLogLevels'. -/
def fnLogLevelsCard : Claim7 := { stood := { row := fnLogLevelsRow, standIns := [], harness := (true, "b236dc4034318a5addda0d30477bd6c10ea6b41bc71c4ed619a631545aedd2f0"), looks := true }, kinds := [], alts := [], laidByText := true, laidKinds := [.data, .data, .data, .sentinel, .sentinel], laidTests := true, laidLooks := .later }
def FnLogLevelsCardSaid : Prop := Claim7.holds Tryd.pinned (.plain (OpenSpec.ofChange fnLogLevelsSpec)) fnLogLevelsCard

/-- THE SECOND FORM's CARD OF 'laws.FnLogLevel'. -/
def fnLogLevelUptoCard : Claim7 := { stood := { row := fnLogLevelUptoRow, standIns := [], harness := (true, "b236dc4034318a5addda0d30477bd6c10ea6b41bc71c4ed619a631545aedd2f0"), looks := true }, kinds := [], alts := [], laidByText := true, laidKinds := [.data, .data, .data, .sentinel, .sentinel], laidTests := true, laidLooks := .later }
def FnLogLevelUptoCardSaid : Prop := Claim7.holds Tryd.pinned (.plain (OpenSpec.upto fnLogLevelSpec)) fnLogLevelUptoCard

/-- THE SECOND FORM's CARD OF 'laws.FnLogSample'. -/
def fnLogSampleUptoCard : Claim7 := { stood := { row := fnLogSampleUptoRow, standIns := [], harness := (true, "b236dc4034318a5addda0d30477bd6c10ea6b41bc71c4ed619a631545aedd2f0"), looks := true }, kinds := [], alts := [], laidByText := true, laidKinds := [.data, .data, .data, .sentinel, .sentinel], laidTests := true, laidLooks := .later }
def FnLogSampleUptoCardSaid : Prop := Claim7.holds Tryd.pinned (.plain (OpenSpec.upto fnLogSampleSpec)) fnLogSampleUptoCard

/-- THE SECOND FORM's CARD OF 'laws.FnLogLevels'. -/
def fnLogLevelsUptoCard : Claim7 := { stood := { row := fnLogLevelsUptoRow, standIns := [], harness := (true, "b236dc4034318a5addda0d30477bd6c10ea6b41bc71c4ed619a631545aedd2f0"), looks := true }, kinds := [], alts := [], laidByText := true, laidKinds := [.data, .data, .data, .sentinel, .sentinel], laidTests := true, laidLooks := .later }
def FnLogLevelsUptoCardSaid : Prop := Claim7.holds Tryd.pinned (.plain (OpenSpec.upto fnLogLevelsSpec)) fnLogLevelsUptoCard
end Rows
end Go.Proofs.YtdndjkdcmbifjaaDoor
