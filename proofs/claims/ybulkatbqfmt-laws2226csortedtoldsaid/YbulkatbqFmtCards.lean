/-
  DERIVED. GIVEN WITH THE SEED: THE CARDS: each row of YbulkatbqFmtRows.lean that lists a variable, with what it lists TIED to the program's text (the seventh form; the later family's looks); each row that meets fmt, with fmt's text TOLD by the authors' own Lean function (tested against real Go, not proved from fmt's source: count such statements apart). THE CARD IS WHAT COUNTS. Prove the row's statement (the work); the ties are given (YbulkatbqFmtTie.lean); close each card by the builder's one call (the guide's Derived/Test/ToyasCard.lean, 'card_holds'). Laid BY PROGRAM, IN A SANDBOX (cutbox-door.mjs). By AI agents, Wed Nov 11 2026. No macro, syntax, notation, axiom, sorry.
-/
import Derived.Test.YbulkatbqFmtRows
import GoSem.ClaimSeven
namespace Go.Proofs.YbulkatbqFmt
namespace Rows

/-- THE TOLD CARD OF 'tool.LawS2226CSorted'. -/
def lawS2226CSortedCard : Claim7 := { stood := { row := lawS2226CSortedRow, standIns := [], harness := (true, "856265b7538c3f55f709f58d4edbdc2a8ee4c8517a8860d74fa4913bb9a57936"), looks := true }, told := true, goes := false }
def LawS2226CSortedToldSaid : Prop := Claim7.holds Ybaf.pinned (.plain (OpenSpec.ofChange lawS2226CSortedSpec)) lawS2226CSortedCard
/-- ITS FALSE NEIGHBOUR. Refute it at one input. -/
def LawS2226CSortedToldWrongFalsely : Prop := Claim7.holds Ybaf.pinned (.plain (OpenSpec.ofChange lawS2226CSortedWrong)) lawS2226CSortedCard

/-- THE TOLD CARD OF 'tool.LawS2226CRefuse'. -/
def lawS2226CRefuseCard : Claim7 := { stood := { row := lawS2226CRefuseRow, standIns := [], harness := (true, "856265b7538c3f55f709f58d4edbdc2a8ee4c8517a8860d74fa4913bb9a57936"), looks := true }, told := true, goes := false }
def LawS2226CRefuseToldSaid : Prop := Claim7.holds Ybaf.pinned (.plain (OpenSpec.ofChange lawS2226CRefuseSpec)) lawS2226CRefuseCard
/-- ITS FALSE NEIGHBOUR. Refute it at one input. -/
def LawS2226CRefuseToldWrongFalsely : Prop := Claim7.holds Ybaf.pinned (.plain (OpenSpec.ofChange lawS2226CRefuseWrong)) lawS2226CRefuseCard
end Rows
end Go.Proofs.YbulkatbqFmt
