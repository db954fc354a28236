/-
  No cell of these rows narrows 'for every input' (looked for: loops, veiled, ifaces, maps, wideKeys, modest, calm, conditions, laid).
  DERIVED. THE GIVEN ROWS OF THIS SEAT. 1 by the template 'for every input the law returns true; each argument reads behind the call as it read before'; 0 by the template 'total and deterministic' (their statements: YbulkasyyTotals.lean).
  GIVEN WITH THE SEED: the statements are not yours to turn. If you find one false, say at which input.
  Laid BY PROGRAM, IN A SANDBOX (cutbox-rows.mjs): the forced cells as the released guide's own fill.sh prints them over the translation d7f2678d9f88cf78… (all of the seat's roots in one cut). By AI agents, Wed Nov 11 2026. No macro, syntax, notation, axiom, sorry.
-/
import Derived.Test.YbulkasyyChecked
import GoSem.Claim
import GoSem.ClaimJoined
import GoSem.ClaimMapViews
import Derived.JoinedTies
import Derived.KernelRfl
namespace Go.Proofs.Ybulkasyy
/- THE CELL 'sum', in the pinned program and in every row, IS THE sha256 OF THE DUMP (.gsa) THAT YbulkasyyProg.lean LOADS. Nothing in Lean hashes anything: it is a label: what it is worth is what the hold of that sum in a sandbox is worth. -/
noncomputable def Yba.pinned : Pinned := { name := "ybulkasyy", sum := "d7f2678d9f88cf78829da864446956c2ca2ad86b8fa0424782116d5bcaa5b6d4", checked := Yba.checked }
namespace Rows
def none {H : Type} : Left H := { results := [], args := [] }

/-- 'cellgate.LawS2221BCamped': WHATEVER THE INPUT: true; the input reads as it did. -/
def lawS2221BCampedSpec : ChangeSpec := { name := "lawS2221BCamped", fn := fun _ => fun
  | [d1, d2, d3, d4, d5] => { results := [.lit (.bool true)], args := [d1, d2, d3, d4, d5] }
  | _ => none }
def lawS2221BCampedRow : OpenClaim := { program := "ybulkasyy", sum := "d7f2678d9f88cf78829da864446956c2ca2ad86b8fa0424782116d5bcaa5b6d4", func := "example.com/cellgate/cellgate.LawS2221BCamped", spec := "lawS2221BCamped", plainKeys := false, apart := false }
def LawS2221BCampedSaid : Prop := lawS2221BCampedRow.holds Yba.pinned (OpenSpec.ofChange lawS2221BCampedSpec)

/-- ITS FALSE NEIGHBOUR: 'it returns false'. Refute it at one input. -/
def lawS2221BCampedWrong : ChangeSpec := { name := "lawS2221BCamped", fn := fun _ => fun
  | [d1, d2, d3, d4, d5] => { results := [.lit (.bool false)], args := [d1, d2, d3, d4, d5] }
  | _ => none }
def LawS2221BCampedWrongFalsely : Prop := lawS2221BCampedRow.holds Yba.pinned (OpenSpec.ofChange lawS2221BCampedWrong)

end Rows
end Go.Proofs.Ybulkasyy
