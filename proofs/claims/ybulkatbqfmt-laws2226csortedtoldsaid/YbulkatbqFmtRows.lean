/-
  No cell of these rows narrows 'for every input' (looked for: loops, veiled, ifaces, maps, wideKeys, modest, calm, conditions, laid).
  DERIVED. THE GIVEN ROWS OF THIS SEAT. 2 by the template 'for every input the law returns true; each argument reads behind the call as it read before'; 0 by the template 'total and deterministic' (their statements: YbulkatbqFmtTotals.lean).
  GIVEN WITH THE SEED: the statements are not yours to turn. If you find one false, say at which input.
  Laid BY PROGRAM, IN A SANDBOX (cutbox-rows.mjs): the forced cells as the released guide's own fill.sh prints them over the translation 5dc911b2dfb930c4… (all of the seat's roots in one cut). By AI agents, Wed Nov 11 2026. No macro, syntax, notation, axiom, sorry.
-/
import Derived.Test.YbulkatbqFmtChecked
import GoSem.Claim
import GoSem.ClaimJoined
import GoSem.ClaimMapViews
import Derived.JoinedTies
import Derived.KernelRfl
namespace Go.Proofs.YbulkatbqFmt
/- THE CELL 'sum', in the pinned program and in every row, IS THE sha256 OF THE DUMP (.gsa) THAT YbulkatbqFmtProg.lean LOADS. Nothing in Lean hashes anything: it is a label: what it is worth is what the hold of that sum in a sandbox is worth. -/
noncomputable def Ybaf.pinned : Pinned := { name := "ybulkatbqfmt", sum := "5dc911b2dfb930c4710f88e47d2de615e2930ffe599098ac8b2daa2b25de274b", checked := Ybaf.checked }
namespace Rows
def none {H : Type} : Left H := { results := [], args := [] }

/-- 'tool.LawS2226CSorted': WHATEVER THE INPUT: true; the input reads as it did. -/
def lawS2226CSortedSpec : ChangeSpec := { name := "lawS2226CSorted", fn := fun _ => fun
  | [d] => { results := [.lit (.bool true)], args := [d] }
  | _ => none }
def lawS2226CSortedRow : OpenClaim := { program := "ybulkatbqfmt", sum := "5dc911b2dfb930c4710f88e47d2de615e2930ffe599098ac8b2daa2b25de274b", func := "example.com/acyclic-harness/acyclic-harness/tool.LawS2226CSorted", spec := "lawS2226CSorted", stops := ["fmt.errorf"], inPlace := ["fmt.errorf", "internal/bytealg.abigen_runtime_cmpstring"], unfollowed := true, recurses := true, apart := false }
/-- NO THEOREM (fmt's text is open here; it may be false): for the released tool's asking of the row's closed facts alone. THE STATEMENT IS 'LawS2226CSortedToldSaid' (YbulkatbqFmtCards.lean). -/
def LawS2226CSortedFormAsk : Prop := lawS2226CSortedRow.holds Ybaf.pinned (OpenSpec.ofChange lawS2226CSortedSpec)

/-- ITS FALSE NEIGHBOUR: 'it returns false'. Refute it at one input. -/
def lawS2226CSortedWrong : ChangeSpec := { name := "lawS2226CSorted", fn := fun _ => fun
  | [d] => { results := [.lit (.bool false)], args := [d] }
  | _ => none }
def LawS2226CSortedWrongFormAsk : Prop := lawS2226CSortedRow.holds Ybaf.pinned (OpenSpec.ofChange lawS2226CSortedWrong)

/-- 'tool.LawS2226CRefuse': WHATEVER THE INPUT: true; the input reads as it did. -/
def lawS2226CRefuseSpec : ChangeSpec := { name := "lawS2226CRefuse", fn := fun _ => fun
  | [d] => { results := [.lit (.bool true)], args := [d] }
  | _ => none }
def lawS2226CRefuseRow : OpenClaim := { program := "ybulkatbqfmt", sum := "5dc911b2dfb930c4710f88e47d2de615e2930ffe599098ac8b2daa2b25de274b", func := "example.com/acyclic-harness/acyclic-harness/tool.LawS2226CRefuse", spec := "lawS2226CRefuse", stops := ["fmt.errorf"], inPlace := ["fmt.errorf", "internal/bytealg.abigen_runtime_cmpstring"], unfollowed := true, recurses := true, apart := false }
/-- NO THEOREM (fmt's text is open here; it may be false): for the released tool's asking of the row's closed facts alone. THE STATEMENT IS 'LawS2226CRefuseToldSaid' (YbulkatbqFmtCards.lean). -/
def LawS2226CRefuseFormAsk : Prop := lawS2226CRefuseRow.holds Ybaf.pinned (OpenSpec.ofChange lawS2226CRefuseSpec)

/-- ITS FALSE NEIGHBOUR: 'it returns false'. Refute it at one input. -/
def lawS2226CRefuseWrong : ChangeSpec := { name := "lawS2226CRefuse", fn := fun _ => fun
  | [d] => { results := [.lit (.bool false)], args := [d] }
  | _ => none }
def LawS2226CRefuseWrongFormAsk : Prop := lawS2226CRefuseRow.holds Ybaf.pinned (OpenSpec.ofChange lawS2226CRefuseWrong)

end Rows
end Go.Proofs.YbulkatbqFmt
