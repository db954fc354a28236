/-
  NARROWER THAN 'FOR EVERY INPUT', by the rows' own cells (each row's printed sentence says how): LawS2223BRoundTrip: ifaces, laid.
  DERIVED. THE GIVEN ROWS OF THIS SEAT. 2 by the template 'for every input the law returns true; each argument reads behind the call as it read before'; 0 by the template 'total and deterministic' (their statements: YbulkataaFmtTotals.lean).
  GIVEN WITH THE SEED: the statements are not yours to turn. If you find one false, say at which input.
  Laid BY PROGRAM, IN A SANDBOX (cutbox-rows.mjs): the forced cells as the released guide's own fill.sh prints them over the translation c7f02d29e6446be0… (all of the seat's roots in one cut). By AI agents, Wed Nov 11 2026. No macro, syntax, notation, axiom, sorry.
-/
import Derived.Test.YbulkataaFmtChecked
import GoSem.Claim
import GoSem.ClaimJoined
import GoSem.ClaimMapViews
import Derived.JoinedTies
import Derived.KernelRfl
namespace Go.Proofs.YbulkataaFmt
/- THE CELL 'sum', in the pinned program and in every row, IS THE sha256 OF THE DUMP (.gsa) THAT YbulkataaFmtProg.lean LOADS. Nothing in Lean hashes anything: it is a label: what it is worth is what the hold of that sum in a sandbox is worth. -/
noncomputable def Ybaf.pinned : Pinned := { name := "ybulkataafmt", sum := "c7f02d29e6446be046d1415281bc2a6a2581bd477f30c0512527a6ea2687625a", checked := Ybaf.checked }
namespace Rows
def none {H : Type} : Left H := { results := [], args := [] }

/- WHAT THE LISTED PACKAGE-LEVEL VARIABLES READ AS WHEN THE CALL BEGINS. Each datum BY PROGRAM (the guide's laid-datum.mjs) off the statement by which the dump's own 'gosem.cut.vars' lays the variable. In a bare row this is a premise. The card (YbulkataaFmtCards.lean) ties it to the program's text. -/
def laid_example_com_mobilith_mobilith_s1ap_errTruncated {H : Type} : DataW H := .iface "*errors.errorString" (.ptr (.agg [.lit (.string [101, 110, 99, 111, 100, 105, 110, 103, 32, 101, 110, 100, 115, 32, 101, 97, 114, 108, 121])]))

/-- 's1ap.LawS2223BEncoding': WHATEVER THE INPUT: true; the input reads as it did. -/
def lawS2223BEncodingSpec : ChangeSpec := { name := "lawS2223BEncoding", fn := fun _ => fun
  | [d1, d2] => { results := [.lit (.bool true)], args := [d1, d2] }
  | _ => none }
def lawS2223BEncodingRow : OpenClaim := { program := "ybulkataafmt", sum := "c7f02d29e6446be046d1415281bc2a6a2581bd477f30c0512527a6ea2687625a", func := "example.com/mobilith/mobilith/s1ap.LawS2223BEncoding", spec := "lawS2223BEncoding", stops := ["fmt.errorf"], inPlace := ["fmt.errorf"], apart := false }
/-- NO THEOREM (fmt's text is open here; it may be false): for the released tool's asking of the row's closed facts alone. THE STATEMENT IS 'LawS2223BEncodingToldSaid' (YbulkataaFmtCards.lean). -/
def LawS2223BEncodingFormAsk : Prop := lawS2223BEncodingRow.holds Ybaf.pinned (OpenSpec.ofChange lawS2223BEncodingSpec)

/-- ITS FALSE NEIGHBOUR: 'it returns false'. Refute it at one input. -/
def lawS2223BEncodingWrong : ChangeSpec := { name := "lawS2223BEncoding", fn := fun _ => fun
  | [d1, d2] => { results := [.lit (.bool false)], args := [d1, d2] }
  | _ => none }
def LawS2223BEncodingWrongFormAsk : Prop := lawS2223BEncodingRow.holds Ybaf.pinned (OpenSpec.ofChange lawS2223BEncodingWrong)

/-- 's1ap.LawS2223BRoundTrip': WHATEVER THE INPUT: true; the input reads as it did. -/
def lawS2223BRoundTripSpec : ChangeSpec := { name := "lawS2223BRoundTrip", vars := ["example.com/mobilith/mobilith/s1ap.errTruncated"], fn := fun _ => fun
  | [d1, d2, g1] => { results := [.lit (.bool true)], args := [d1, d2], vars := [g1] }
  | _ => none }
def lawS2223BRoundTripRow : OpenClaim := { program := "ybulkataafmt", sum := "c7f02d29e6446be046d1415281bc2a6a2581bd477f30c0512527a6ea2687625a", func := "example.com/mobilith/mobilith/s1ap.LawS2223BRoundTrip", spec := "lawS2223BRoundTrip", stops := ["fmt.errorf"], inPlace := ["fmt.errorf"], unfollowed := true, recurses := true, named := ["example.com/mobilith/mobilith/s1ap.errTruncated"], ifaces := true, apart := false, laid := [("example.com/mobilith/mobilith/s1ap.errTruncated", laid_example_com_mobilith_mobilith_s1ap_errTruncated)] }
/-- NO THEOREM (fmt's text is open here; it may be false): for the released tool's asking of the row's closed facts alone. THE STATEMENT IS 'LawS2223BRoundTripToldSaid' (YbulkataaFmtCards.lean). -/
def LawS2223BRoundTripFormAsk : Prop := lawS2223BRoundTripRow.holds Ybaf.pinned (OpenSpec.ofChange lawS2223BRoundTripSpec)

/-- ITS FALSE NEIGHBOUR: 'it returns false'. Refute it at one input. -/
def lawS2223BRoundTripWrong : ChangeSpec := { name := "lawS2223BRoundTrip", vars := ["example.com/mobilith/mobilith/s1ap.errTruncated"], fn := fun _ => fun
  | [d1, d2, g1] => { results := [.lit (.bool false)], args := [d1, d2], vars := [g1] }
  | _ => none }
def LawS2223BRoundTripWrongFormAsk : Prop := lawS2223BRoundTripRow.holds Ybaf.pinned (OpenSpec.ofChange lawS2223BRoundTripWrong)

end Rows
end Go.Proofs.YbulkataaFmt
