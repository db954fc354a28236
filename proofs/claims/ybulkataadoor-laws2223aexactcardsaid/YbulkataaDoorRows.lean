/-
  NARROWER THAN 'FOR EVERY INPUT', by the rows' own cells (each row's printed sentence says how): LawS2223AExact: laid · LawS2223AFound: laid.
  DERIVED. THE GIVEN ROWS OF THIS SEAT. 2 by the template 'for every input the law returns true; each argument reads behind the call as it read before'; 0 by the template 'total and deterministic' (their statements: YbulkataaDoorTotals.lean).
  GIVEN WITH THE SEED: the statements are not yours to turn. If you find one false, say at which input.
  Laid BY PROGRAM, IN A SANDBOX (cutbox-rows.mjs): the forced cells as the released guide's own fill.sh prints them over the translation f0698c8d0a952ae9… (all of the seat's roots in one cut). By AI agents, Wed Nov 11 2026. No macro, syntax, notation, axiom, sorry.
-/
import Derived.Test.YbulkataaDoorChecked
import GoSem.Claim
import GoSem.ClaimJoined
import GoSem.ClaimMapViews
import Derived.JoinedTies
import Derived.KernelRfl
namespace Go.Proofs.YbulkataaDoor
/- THE CELL 'sum', in the pinned program and in every row, IS THE sha256 OF THE DUMP (.gsa) THAT YbulkataaDoorProg.lean LOADS. Nothing in Lean hashes anything: it is a label: what it is worth is what the hold of that sum in a sandbox is worth. -/
noncomputable def Ybad.pinned : Pinned := { name := "ybulkataadoor", sum := "f0698c8d0a952ae986719dad9185cb112fb3702d76474b3e23dea5d8073ecb9c", checked := Ybad.checked }
namespace Rows
def none {H : Type} : Left H := { results := [], args := [] }

/- WHAT THE LISTED PACKAGE-LEVEL VARIABLES READ AS WHEN THE CALL BEGINS. Each datum BY PROGRAM (the guide's laid-datum.mjs) off the statement by which the dump's own 'gosem.cut.vars' lays the variable. In a bare row this is a premise. The card (YbulkataaDoorCards.lean) ties it to the program's text. -/
def laid_net_netip_z4 {H : Type} : DataW H := .agg [.ptr (.agg [.lit (.bool false), .lit (.string [])])]
def laid_net_netip_z6noz {H : Type} : DataW H := .agg [.ptr (.agg [.lit (.bool true), .lit (.string [])])]

/-- 'emm.LawS2223AExact': WHATEVER THE INPUT: true; the input reads as it did. -/
def lawS2223AExactSpec : ChangeSpec := { name := "lawS2223AExact", fn := fun _ => fun
  | [d1, d2] => { results := [.lit (.bool true)], args := [d1, d2] }
  | _ => none }
def lawS2223AExactRow : OpenClaim := { program := "ybulkataadoor", sum := "f0698c8d0a952ae986719dad9185cb112fb3702d76474b3e23dea5d8073ecb9c", func := "example.com/mobilith/mobilith/emm.LawS2223AExact", spec := "lawS2223AExact", unfollowed := true, recurses := true, named := ["net/netip.z4", "net/netip.z6noz"], apart := false, laid := [("net/netip.z4", laid_net_netip_z4), ("net/netip.z6noz", laid_net_netip_z6noz)] }
def LawS2223AExactSaid : Prop := lawS2223AExactRow.holds Ybad.pinned (OpenSpec.ofChange lawS2223AExactSpec)

/-- ITS FALSE NEIGHBOUR: 'it returns false'. Refute it at one input. -/
def lawS2223AExactWrong : ChangeSpec := { name := "lawS2223AExact", fn := fun _ => fun
  | [d1, d2] => { results := [.lit (.bool false)], args := [d1, d2] }
  | _ => none }
def LawS2223AExactWrongFalsely : Prop := lawS2223AExactRow.holds Ybad.pinned (OpenSpec.ofChange lawS2223AExactWrong)

/-- 'emm.LawS2223AFound': WHATEVER THE INPUT: true; the input reads as it did. -/
def lawS2223AFoundSpec : ChangeSpec := { name := "lawS2223AFound", fn := fun _ => fun
  | [d1, d2] => { results := [.lit (.bool true)], args := [d1, d2] }
  | _ => none }
def lawS2223AFoundRow : OpenClaim := { program := "ybulkataadoor", sum := "f0698c8d0a952ae986719dad9185cb112fb3702d76474b3e23dea5d8073ecb9c", func := "example.com/mobilith/mobilith/emm.LawS2223AFound", spec := "lawS2223AFound", unfollowed := true, recurses := true, named := ["net/netip.z4", "net/netip.z6noz"], apart := false, laid := [("net/netip.z4", laid_net_netip_z4), ("net/netip.z6noz", laid_net_netip_z6noz)] }
def LawS2223AFoundSaid : Prop := lawS2223AFoundRow.holds Ybad.pinned (OpenSpec.ofChange lawS2223AFoundSpec)

/-- ITS FALSE NEIGHBOUR: 'it returns false'. Refute it at one input. -/
def lawS2223AFoundWrong : ChangeSpec := { name := "lawS2223AFound", fn := fun _ => fun
  | [d1, d2] => { results := [.lit (.bool false)], args := [d1, d2] }
  | _ => none }
def LawS2223AFoundWrongFalsely : Prop := lawS2223AFoundRow.holds Ybad.pinned (OpenSpec.ofChange lawS2223AFoundWrong)

end Rows
end Go.Proofs.YbulkataaDoor
