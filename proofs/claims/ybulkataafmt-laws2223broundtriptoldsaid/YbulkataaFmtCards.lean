/-
  DERIVED. GIVEN WITH THE SEED: THE CARDS: each row of YbulkataaFmtRows.lean that lists a variable, with what it lists TIED to the program's text (the seventh form; the later family's looks); each row that meets fmt, with fmt's text TOLD by the authors' own Lean function (tested against real Go, not proved from fmt's source: count such statements apart). THE CARD IS WHAT COUNTS. Prove the row's statement (the work); the ties are given (YbulkataaFmtTie.lean); close each card by the builder's one call (the guide's Derived/Test/ToyasCard.lean, 'card_holds'). Laid BY PROGRAM, IN A SANDBOX (cutbox-door.mjs). By AI agents, Wed Nov 11 2026. No macro, syntax, notation, axiom, sorry.
-/
import Derived.Test.YbulkataaFmtRows
import GoSem.ClaimSeven
namespace Go.Proofs.YbulkataaFmt
namespace Rows

/-- THE TOLD CARD OF 's1ap.LawS2223BEncoding'. -/
def lawS2223BEncodingCard : Claim7 := { stood := { row := lawS2223BEncodingRow, standIns := [], harness := (true, "8b8c8a80dc4e13fe75ab9026d93136908f38bc9c22671720617ef5834b1ca13c"), looks := false }, told := true, goes := false }
def LawS2223BEncodingToldSaid : Prop := Claim7.holds Ybaf.pinned (.plain (OpenSpec.ofChange lawS2223BEncodingSpec)) lawS2223BEncodingCard
/-- ITS FALSE NEIGHBOUR. Refute it at one input. -/
def LawS2223BEncodingToldWrongFalsely : Prop := Claim7.holds Ybaf.pinned (.plain (OpenSpec.ofChange lawS2223BEncodingWrong)) lawS2223BEncodingCard

/-- THE TOLD AND TIED CARD OF 's1ap.LawS2223BRoundTrip'. -/
def lawS2223BRoundTripCard : Claim7 := { stood := { row := lawS2223BRoundTripRow, standIns := [], harness := (true, "8b8c8a80dc4e13fe75ab9026d93136908f38bc9c22671720617ef5834b1ca13c"), looks := false }, told := true, laidByText := true, laidKinds := [.sentinel], laidTests := true, laidLooks := .later, goes := false }
def LawS2223BRoundTripToldSaid : Prop := Claim7.holds Ybaf.pinned (.plain (OpenSpec.ofChange lawS2223BRoundTripSpec)) lawS2223BRoundTripCard
/-- ITS FALSE NEIGHBOUR. Refute it at one input. -/
def LawS2223BRoundTripToldWrongFalsely : Prop := Claim7.holds Ybaf.pinned (.plain (OpenSpec.ofChange lawS2223BRoundTripWrong)) lawS2223BRoundTripCard
end Rows
end Go.Proofs.YbulkataaFmt
