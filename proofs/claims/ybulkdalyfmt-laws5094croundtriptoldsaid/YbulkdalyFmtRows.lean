/-
  NARROWER THAN 'FOR EVERY INPUT', by the rows' own cells (each row's printed sentence says how): LawS5094CModel: ifaces, laid · LawS5094CRoundTrip: ifaces, laid.
  DERIVED. THE GIVEN ROWS OF THIS SEAT. 2 by the template 'for every input the law returns true; each argument reads behind the call as it read before'; 0 by the template 'total and deterministic' (their statements: YbulkdalyFmtTotals.lean).
  GIVEN WITH THE SEED: the statements are not yours to turn. If you find one false, say at which input.
  Laid BY PROGRAM, IN A SANDBOX (cutbox-rows.mjs): the forced cells as the released guide's own fill.sh prints them over the translation d189a15e55808cb0… (all of the seat's roots in one cut). By AI agents, Wed Nov 11 2026. No macro, syntax, notation, axiom, sorry.
-/
import Derived.Test.YbulkdalyFmtChecked
import GoSem.Claim
import GoSem.ClaimJoined
import GoSem.ClaimMapViews
import Derived.JoinedTies
import Derived.KernelRfl
namespace Go.Proofs.YbulkdalyFmt
/- THE CELL 'sum', in the pinned program and in every row, IS THE sha256 OF THE DUMP (.gsa) THAT YbulkdalyFmtProg.lean LOADS. Nothing in Lean hashes anything: it is a label: what it is worth is what the hold of that sum in a sandbox is worth. -/
noncomputable def Ybaf.pinned : Pinned := { name := "ybulkdalyfmt", sum := "d189a15e55808cb01f2dee47c4d59c7370fd3245d79b6b0d67a48a0866a566bf", checked := Ybaf.checked }
namespace Rows
def none {H : Type} : Left H := { results := [], args := [] }

/- WHAT THE LISTED PACKAGE-LEVEL VARIABLES READ AS WHEN THE CALL BEGINS. Each datum BY PROGRAM (the guide's laid-datum.mjs) off the statement by which the dump's own 'gosem.cut.vars' lays the variable. In a bare row this is a premise. The card (YbulkdalyFmtCards.lean) ties it to the program's text. -/
def laid_example_com_namewire_namewire_ndn_errTruncated {H : Type} : DataW H := .iface "*errors.errorString" (.ptr (.agg [.lit (.string [116, 114, 117, 110, 99, 97, 116, 101, 100, 32, 84, 76, 86, 32, 116, 121, 112, 101, 32, 111, 114, 32, 108, 101, 110, 103, 116, 104])]))

/-- 'ndn.LawS5094CModel': WHATEVER THE INPUT: true; the input reads as it did. -/
def lawS5094CModelSpec : ChangeSpec := { name := "lawS5094CModel", vars := ["example.com/namewire/namewire/ndn.errTruncated"], fn := fun _ => fun
  | [d, g1] => { results := [.lit (.bool true)], args := [d], vars := [g1] }
  | _ => none }
def lawS5094CModelRow : OpenClaim := { program := "ybulkdalyfmt", sum := "d189a15e55808cb01f2dee47c4d59c7370fd3245d79b6b0d67a48a0866a566bf", func := "example.com/namewire/namewire/ndn.LawS5094CModel", spec := "lawS5094CModel", stops := ["fmt.errorf"], inPlace := ["fmt.errorf"], named := ["example.com/namewire/namewire/ndn.errTruncated"], ifaces := true, apart := false, laid := [("example.com/namewire/namewire/ndn.errTruncated", laid_example_com_namewire_namewire_ndn_errTruncated)] }
/-- NO THEOREM (fmt's text is open here; it may be false): for the released tool's asking of the row's closed facts alone. THE STATEMENT IS 'LawS5094CModelToldSaid' (YbulkdalyFmtCards.lean). -/
def LawS5094CModelFormAsk : Prop := lawS5094CModelRow.holds Ybaf.pinned (OpenSpec.ofChange lawS5094CModelSpec)

/-- ITS FALSE NEIGHBOUR: 'it returns false'. Refute it at one input. -/
def lawS5094CModelWrong : ChangeSpec := { name := "lawS5094CModel", vars := ["example.com/namewire/namewire/ndn.errTruncated"], fn := fun _ => fun
  | [d, g1] => { results := [.lit (.bool false)], args := [d], vars := [g1] }
  | _ => none }
def LawS5094CModelWrongFormAsk : Prop := lawS5094CModelRow.holds Ybaf.pinned (OpenSpec.ofChange lawS5094CModelWrong)

/-- 'ndn.LawS5094CRoundTrip': WHATEVER THE INPUT: true; the input reads as it did. -/
def lawS5094CRoundTripSpec : ChangeSpec := { name := "lawS5094CRoundTrip", vars := ["example.com/namewire/namewire/ndn.errTruncated"], fn := fun _ => fun
  | [d, g1] => { results := [.lit (.bool true)], args := [d], vars := [g1] }
  | _ => none }
def lawS5094CRoundTripRow : OpenClaim := { program := "ybulkdalyfmt", sum := "d189a15e55808cb01f2dee47c4d59c7370fd3245d79b6b0d67a48a0866a566bf", func := "example.com/namewire/namewire/ndn.LawS5094CRoundTrip", spec := "lawS5094CRoundTrip", stops := ["fmt.errorf"], inPlace := ["fmt.errorf"], named := ["example.com/namewire/namewire/ndn.errTruncated"], ifaces := true, apart := false, laid := [("example.com/namewire/namewire/ndn.errTruncated", laid_example_com_namewire_namewire_ndn_errTruncated)] }
/-- NO THEOREM (fmt's text is open here; it may be false): for the released tool's asking of the row's closed facts alone. THE STATEMENT IS 'LawS5094CRoundTripToldSaid' (YbulkdalyFmtCards.lean). -/
def LawS5094CRoundTripFormAsk : Prop := lawS5094CRoundTripRow.holds Ybaf.pinned (OpenSpec.ofChange lawS5094CRoundTripSpec)

/-- ITS FALSE NEIGHBOUR: 'it returns false'. Refute it at one input. -/
def lawS5094CRoundTripWrong : ChangeSpec := { name := "lawS5094CRoundTrip", vars := ["example.com/namewire/namewire/ndn.errTruncated"], fn := fun _ => fun
  | [d, g1] => { results := [.lit (.bool false)], args := [d], vars := [g1] }
  | _ => none }
def LawS5094CRoundTripWrongFormAsk : Prop := lawS5094CRoundTripRow.holds Ybaf.pinned (OpenSpec.ofChange lawS5094CRoundTripWrong)

end Rows
end Go.Proofs.YbulkdalyFmt
