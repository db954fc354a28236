/-
  DERIVED. GIVEN WITH THE SEED: THE CARDS: each row of YbulkasyyFmtRows.lean that lists a variable, with what it lists TIED to the program's text (the seventh form; the later family's looks); each row that meets fmt, with fmt's text TOLD by the authors' own Lean function (tested against real Go, not proved from fmt's source: count such statements apart). THE CARD IS WHAT COUNTS. Prove the row's statement (the work); the ties are given (YbulkasyyFmtTie.lean); close each card by the builder's one call (the guide's Derived/Test/ToyasCard.lean, 'card_holds'). Laid BY PROGRAM, IN A SANDBOX (cutbox-door.mjs). By AI agents, Wed Nov 11 2026. No macro, syntax, notation, axiom, sorry.
-/
import Derived.Test.YbulkasyyFmtRows
import GoSem.ClaimSeven
namespace Go.Proofs.YbulkasyyFmt
namespace Rows

/-- THE TOLD CARD OF 'uper.LawS2221CReads'. -/
def lawS2221CReadsCard : Claim7 := { stood := { row := lawS2221CReadsRow, standIns := [], harness := (true, "86e66e860f4b033290623a1f815fe5cd44567c3e8a783b5d562e5cf5d03f6e2a"), looks := true }, told := true, goes := false }
def LawS2221CReadsToldSaid : Prop := Claim7.holds Ybaf.pinned (.plain (OpenSpec.ofChange lawS2221CReadsSpec)) lawS2221CReadsCard
/-- ITS FALSE NEIGHBOUR. Refute it at one input. -/
def LawS2221CReadsToldWrongFalsely : Prop := Claim7.holds Ybaf.pinned (.plain (OpenSpec.ofChange lawS2221CReadsWrong)) lawS2221CReadsCard

/-- THE TOLD CARD OF 'uper.LawS2221CFailedStays'. -/
def lawS2221CFailedStaysCard : Claim7 := { stood := { row := lawS2221CFailedStaysRow, standIns := [], harness := (true, "86e66e860f4b033290623a1f815fe5cd44567c3e8a783b5d562e5cf5d03f6e2a"), looks := true }, told := true, goes := false }
def LawS2221CFailedStaysToldSaid : Prop := Claim7.holds Ybaf.pinned (.plain (OpenSpec.ofChange lawS2221CFailedStaysSpec)) lawS2221CFailedStaysCard
/-- ITS FALSE NEIGHBOUR. Refute it at one input. -/
def LawS2221CFailedStaysToldWrongFalsely : Prop := Claim7.holds Ybaf.pinned (.plain (OpenSpec.ofChange lawS2221CFailedStaysWrong)) lawS2221CFailedStaysCard
end Rows
end Go.Proofs.YbulkasyyFmt
