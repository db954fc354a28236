/-
  DERIVED. GIVEN WITH THE SEED: THE CARDS: each row of YbulkataaDoorRows.lean that lists a variable, with what it lists TIED to the program's text (the seventh form; the later family's looks); each row that meets fmt, with fmt's text TOLD by the authors' own Lean function (tested against real Go, not proved from fmt's source: count such statements apart). THE CARD IS WHAT COUNTS. Prove the row's statement (the work); the ties are given (YbulkataaDoorTie.lean); close each card by the builder's one call (the guide's Derived/Test/ToyasCard.lean, 'card_holds'). Laid BY PROGRAM, IN A SANDBOX (cutbox-door.mjs). By AI agents, Wed Nov 11 2026. No macro, syntax, notation, axiom, sorry.
-/
import Derived.Test.YbulkataaDoorRows
import GoSem.ClaimSeven
namespace Go.Proofs.YbulkataaDoor
namespace Rows

/-- THE TIED CARD OF 'emm.LawS2223AExact'. -/
def lawS2223AExactCard : Claim7 := { stood := { row := lawS2223AExactRow, standIns := [], harness := (true, "0e56f5c2b90f34b1b135e837f8812e3d2309219276a45a300d9866bf2120a4e2"), looks := false }, kinds := [], alts := [], laidByText := true, laidKinds := [.called, .called], laidTests := true, laidLooks := .later }
def LawS2223AExactCardSaid : Prop := Claim7.holds Ybad.pinned (.plain (OpenSpec.ofChange lawS2223AExactSpec)) lawS2223AExactCard

/-- THE TIED CARD OF 'emm.LawS2223AFound'. -/
def lawS2223AFoundCard : Claim7 := { stood := { row := lawS2223AFoundRow, standIns := [], harness := (true, "0e56f5c2b90f34b1b135e837f8812e3d2309219276a45a300d9866bf2120a4e2"), looks := false }, kinds := [], alts := [], laidByText := true, laidKinds := [.called, .called], laidTests := true, laidLooks := .later }
def LawS2223AFoundCardSaid : Prop := Claim7.holds Ybad.pinned (.plain (OpenSpec.ofChange lawS2223AFoundSpec)) lawS2223AFoundCard
end Rows
end Go.Proofs.YbulkataaDoor
