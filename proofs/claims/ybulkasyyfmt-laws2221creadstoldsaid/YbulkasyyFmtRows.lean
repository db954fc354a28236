/-
  No cell of these rows narrows 'for every input' (looked for: loops, veiled, ifaces, maps, wideKeys, modest, calm, conditions, laid).
  DERIVED. THE GIVEN ROWS OF THIS SEAT. 2 by the template 'for every input the law returns true; each argument reads behind the call as it read before'; 0 by the template 'total and deterministic' (their statements: YbulkasyyFmtTotals.lean).
  GIVEN WITH THE SEED: the statements are not yours to turn. If you find one false, say at which input.
  Laid BY PROGRAM, IN A SANDBOX (cutbox-rows.mjs): the forced cells as the released guide's own fill.sh prints them over the translation 91d7f31b7d1deabb… (all of the seat's roots in one cut). By AI agents, Wed Nov 11 2026. No macro, syntax, notation, axiom, sorry.
-/
import Derived.Test.YbulkasyyFmtChecked
import GoSem.Claim
import GoSem.ClaimJoined
import GoSem.ClaimMapViews
import Derived.JoinedTies
import Derived.KernelRfl
namespace Go.Proofs.YbulkasyyFmt
/- THE CELL 'sum', in the pinned program and in every row, IS THE sha256 OF THE DUMP (.gsa) THAT YbulkasyyFmtProg.lean LOADS. Nothing in Lean hashes anything: it is a label: what it is worth is what the hold of that sum in a sandbox is worth. -/
noncomputable def Ybaf.pinned : Pinned := { name := "ybulkasyyfmt", sum := "91d7f31b7d1deabb5629c25bee4e30f0440b8d13b2f34aec5f7ef4fbcd7fbbba", checked := Ybaf.checked }
namespace Rows
def none {H : Type} : Left H := { results := [], args := [] }

/-- 'uper.LawS2221CReads': WHATEVER THE INPUT: true; the input reads as it did. -/
def lawS2221CReadsSpec : ChangeSpec := { name := "lawS2221CReads", fn := fun _ => fun
  | [d1, d2, d3] => { results := [.lit (.bool true)], args := [d1, d2, d3] }
  | _ => none }
def lawS2221CReadsRow : OpenClaim := { program := "ybulkasyyfmt", sum := "91d7f31b7d1deabb5629c25bee4e30f0440b8d13b2f34aec5f7ef4fbcd7fbbba", func := "example.com/cellgate/cellgate/internal/uper.LawS2221CReads", spec := "lawS2221CReads", stops := ["fmt.Sprintf"], inPlace := ["fmt.Sprintf"], named := ["encoding/binary.BigEndian"], apart := false }
/-- NO THEOREM (fmt's text is open here; it may be false): for the released tool's asking of the row's closed facts alone. THE STATEMENT IS 'LawS2221CReadsToldSaid' (YbulkasyyFmtCards.lean). -/
def LawS2221CReadsFormAsk : Prop := lawS2221CReadsRow.holds Ybaf.pinned (OpenSpec.ofChange lawS2221CReadsSpec)

/-- ITS FALSE NEIGHBOUR: 'it returns false'. Refute it at one input. -/
def lawS2221CReadsWrong : ChangeSpec := { name := "lawS2221CReads", fn := fun _ => fun
  | [d1, d2, d3] => { results := [.lit (.bool false)], args := [d1, d2, d3] }
  | _ => none }
def LawS2221CReadsWrongFormAsk : Prop := lawS2221CReadsRow.holds Ybaf.pinned (OpenSpec.ofChange lawS2221CReadsWrong)

/-- 'uper.LawS2221CFailedStays': WHATEVER THE INPUT: true; the input reads as it did. -/
def lawS2221CFailedStaysSpec : ChangeSpec := { name := "lawS2221CFailedStays", fn := fun _ => fun
  | [d1, d2, d3] => { results := [.lit (.bool true)], args := [d1, d2, d3] }
  | _ => none }
def lawS2221CFailedStaysRow : OpenClaim := { program := "ybulkasyyfmt", sum := "91d7f31b7d1deabb5629c25bee4e30f0440b8d13b2f34aec5f7ef4fbcd7fbbba", func := "example.com/cellgate/cellgate/internal/uper.LawS2221CFailedStays", spec := "lawS2221CFailedStays", stops := ["fmt.Sprintf"], inPlace := ["fmt.Sprintf"], named := ["encoding/binary.BigEndian"], apart := false }
/-- NO THEOREM (fmt's text is open here; it may be false): for the released tool's asking of the row's closed facts alone. THE STATEMENT IS 'LawS2221CFailedStaysToldSaid' (YbulkasyyFmtCards.lean). -/
def LawS2221CFailedStaysFormAsk : Prop := lawS2221CFailedStaysRow.holds Ybaf.pinned (OpenSpec.ofChange lawS2221CFailedStaysSpec)

/-- ITS FALSE NEIGHBOUR: 'it returns false'. Refute it at one input. -/
def lawS2221CFailedStaysWrong : ChangeSpec := { name := "lawS2221CFailedStays", fn := fun _ => fun
  | [d1, d2, d3] => { results := [.lit (.bool false)], args := [d1, d2, d3] }
  | _ => none }
def LawS2221CFailedStaysWrongFormAsk : Prop := lawS2221CFailedStaysRow.holds Ybaf.pinned (OpenSpec.ofChange lawS2221CFailedStaysWrong)

end Rows
end Go.Proofs.YbulkasyyFmt
