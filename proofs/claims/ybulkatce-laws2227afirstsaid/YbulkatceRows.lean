/-
  No cell of these rows narrows 'for every input' (looked for: loops, veiled, ifaces, maps, wideKeys, modest, calm, conditions, laid).
  DERIVED. THE GIVEN ROWS OF THIS SEAT. 2 by the template 'for every input the law returns true; each argument reads behind the call as it read before'; 0 by the template 'total and deterministic' (their statements: YbulkatceTotals.lean).
  GIVEN WITH THE SEED: the statements are not yours to turn. If you find one false, say at which input.
  Laid BY PROGRAM, IN A SANDBOX (cutbox-rows.mjs): the forced cells as the released guide's own fill.sh prints them over the translation c7bacf5ef71c8cf6… (all of the seat's roots in one cut). By AI agents, Wed Nov 11 2026. No macro, syntax, notation, axiom, sorry.
-/
import Derived.Test.YbulkatceChecked
import GoSem.Claim
import GoSem.ClaimJoined
import GoSem.ClaimMapViews
import Derived.JoinedTies
import Derived.KernelRfl
namespace Go.Proofs.Ybulkatce
/- THE CELL 'sum', in the pinned program and in every row, IS THE sha256 OF THE DUMP (.gsa) THAT YbulkatceProg.lean LOADS. Nothing in Lean hashes anything: it is a label: what it is worth is what the hold of that sum in a sandbox is worth. -/
noncomputable def Yba.pinned : Pinned := { name := "ybulkatce", sum := "c7bacf5ef71c8cf63ecb7ac2e4c1756e2a7d0c2539ba745ecb61efa31d5a8ee5", checked := Yba.checked }
namespace Rows
def none {H : Type} : Left H := { results := [], args := [] }

/-- 'quorumtrace.LawS2227AFirst': WHATEVER THE INPUT: true; the input reads as it did. -/
def lawS2227AFirstSpec : ChangeSpec := { name := "lawS2227AFirst", fn := fun _ => fun
  | [d] => { results := [.lit (.bool true)], args := [d] }
  | _ => none }
def lawS2227AFirstRow : OpenClaim := { program := "ybulkatce", sum := "c7bacf5ef71c8cf63ecb7ac2e4c1756e2a7d0c2539ba745ecb61efa31d5a8ee5", func := "example.com/quorumtrace/quorumtrace.LawS2227AFirst", spec := "lawS2227AFirst", apart := false }
def LawS2227AFirstSaid : Prop := lawS2227AFirstRow.holds Yba.pinned (OpenSpec.ofChange lawS2227AFirstSpec)

/-- ITS FALSE NEIGHBOUR: 'it returns false'. Refute it at one input. -/
def lawS2227AFirstWrong : ChangeSpec := { name := "lawS2227AFirst", fn := fun _ => fun
  | [d] => { results := [.lit (.bool false)], args := [d] }
  | _ => none }
def LawS2227AFirstWrongFalsely : Prop := lawS2227AFirstRow.holds Yba.pinned (OpenSpec.ofChange lawS2227AFirstWrong)

/-- 'quorumtrace.LawS2227AAccessors': WHATEVER THE INPUT: true; the input reads as it did. -/
def lawS2227AAccessorsSpec : ChangeSpec := { name := "lawS2227AAccessors", fn := fun _ => fun
  | [d] => { results := [.lit (.bool true)], args := [d] }
  | _ => none }
def lawS2227AAccessorsRow : OpenClaim := { program := "ybulkatce", sum := "c7bacf5ef71c8cf63ecb7ac2e4c1756e2a7d0c2539ba745ecb61efa31d5a8ee5", func := "example.com/quorumtrace/quorumtrace.LawS2227AAccessors", spec := "lawS2227AAccessors", apart := false }
def LawS2227AAccessorsSaid : Prop := lawS2227AAccessorsRow.holds Yba.pinned (OpenSpec.ofChange lawS2227AAccessorsSpec)

/-- ITS FALSE NEIGHBOUR: 'it returns false'. Refute it at one input. -/
def lawS2227AAccessorsWrong : ChangeSpec := { name := "lawS2227AAccessors", fn := fun _ => fun
  | [d] => { results := [.lit (.bool false)], args := [d] }
  | _ => none }
def LawS2227AAccessorsWrongFalsely : Prop := lawS2227AAccessorsRow.holds Yba.pinned (OpenSpec.ofChange lawS2227AAccessorsWrong)

end Rows
end Go.Proofs.Ybulkatce
