/-
  No cell of these rows narrows 'for every input' (looked for: loops, veiled, ifaces, maps, wideKeys, modest, calm, conditions, laid).
  DERIVED. THE GIVEN ROWS OF THIS SEAT. 5 by the template 'for every input the law returns true; each argument reads behind the call as it read before'; 0 by the template 'total and deterministic' (their statements: YbulkdajuTotals.lean).
  GIVEN WITH THE SEED: the statements are not yours to turn. If you find one false, say at which input.
  Laid BY PROGRAM, IN A SANDBOX (cutbox-rows.mjs): the forced cells as the released guide's own fill.sh prints them over the translation 749d89b64427532a… (all of the seat's roots in one cut). By AI agents, Wed Nov 11 2026. No macro, syntax, notation, axiom, sorry.
-/
import Derived.Test.YbulkdajuChecked
import GoSem.Claim
import GoSem.ClaimJoined
import GoSem.ClaimMapViews
import Derived.JoinedTies
import Derived.KernelRfl
namespace Go.Proofs.Ybulkdaju
/- THE CELL 'sum', in the pinned program and in every row, IS THE sha256 OF THE DUMP (.gsa) THAT YbulkdajuProg.lean LOADS. Nothing in Lean hashes anything: it is a label: what it is worth is what the hold of that sum in a sandbox is worth. -/
noncomputable def Yba.pinned : Pinned := { name := "ybulkdaju", sum := "749d89b64427532ae2e9a86967a7650a87d51bd4cf329d8562eca9b37d3db6c3", checked := Yba.checked }
namespace Rows
def none {H : Type} : Left H := { results := [], args := [] }

/-- 'gridsieve.LawS5090APlainCrossings': WHATEVER THE INPUT: true; the input reads as it did. -/
def lawS5090APlainCrossingsSpec : ChangeSpec := { name := "lawS5090APlainCrossings", fn := fun _ => fun
  | [d1, d2, d3, d4, d5, d6] => { results := [.lit (.bool true)], args := [d1, d2, d3, d4, d5, d6] }
  | _ => none }
def lawS5090APlainCrossingsRow : OpenClaim := { program := "ybulkdaju", sum := "749d89b64427532ae2e9a86967a7650a87d51bd4cf329d8562eca9b37d3db6c3", func := "example.com/gridsieve/gridsieve.LawS5090APlainCrossings", spec := "lawS5090APlainCrossings", apart := false }
def LawS5090APlainCrossingsSaid : Prop := lawS5090APlainCrossingsRow.holds Yba.pinned (OpenSpec.ofChange lawS5090APlainCrossingsSpec)

/-- ITS FALSE NEIGHBOUR: 'it returns false'. Refute it at one input. -/
def lawS5090APlainCrossingsWrong : ChangeSpec := { name := "lawS5090APlainCrossings", fn := fun _ => fun
  | [d1, d2, d3, d4, d5, d6] => { results := [.lit (.bool false)], args := [d1, d2, d3, d4, d5, d6] }
  | _ => none }
def LawS5090APlainCrossingsWrongFalsely : Prop := lawS5090APlainCrossingsRow.holds Yba.pinned (OpenSpec.ofChange lawS5090APlainCrossingsWrong)

/-- 'gridsieve.LawS5090AHashedProgression': WHATEVER THE INPUT: true; the input reads as it did. -/
def lawS5090AHashedProgressionSpec : ChangeSpec := { name := "lawS5090AHashedProgression", fn := fun _ => fun
  | [d1, d2, d3, d4, d5, d6, d7, d8] => { results := [.lit (.bool true)], args := [d1, d2, d3, d4, d5, d6, d7, d8] }
  | _ => none }
def lawS5090AHashedProgressionRow : OpenClaim := { program := "ybulkdaju", sum := "749d89b64427532ae2e9a86967a7650a87d51bd4cf329d8562eca9b37d3db6c3", func := "example.com/gridsieve/gridsieve.LawS5090AHashedProgression", spec := "lawS5090AHashedProgression", apart := false }
def LawS5090AHashedProgressionSaid : Prop := lawS5090AHashedProgressionRow.holds Yba.pinned (OpenSpec.ofChange lawS5090AHashedProgressionSpec)

/-- ITS FALSE NEIGHBOUR: 'it returns false'. Refute it at one input. -/
def lawS5090AHashedProgressionWrong : ChangeSpec := { name := "lawS5090AHashedProgression", fn := fun _ => fun
  | [d1, d2, d3, d4, d5, d6, d7, d8] => { results := [.lit (.bool false)], args := [d1, d2, d3, d4, d5, d6, d7, d8] }
  | _ => none }
def LawS5090AHashedProgressionWrongFalsely : Prop := lawS5090AHashedProgressionRow.holds Yba.pinned (OpenSpec.ofChange lawS5090AHashedProgressionWrong)

/-- 'gridsieve.LawS5090CHashed': WHATEVER THE INPUT: true; the input reads as it did. -/
def lawS5090CHashedSpec : ChangeSpec := { name := "lawS5090CHashed", fn := fun _ => fun
  | [d1, d2, d3, d4, d5, d6] => { results := [.lit (.bool true)], args := [d1, d2, d3, d4, d5, d6] }
  | _ => none }
def lawS5090CHashedRow : OpenClaim := { program := "ybulkdaju", sum := "749d89b64427532ae2e9a86967a7650a87d51bd4cf329d8562eca9b37d3db6c3", func := "example.com/gridsieve/gridsieve.LawS5090CHashed", spec := "lawS5090CHashed", unfollowed := true, recurses := true, named := ["encoding/binary.LittleEndian"], apart := false }
def LawS5090CHashedSaid : Prop := lawS5090CHashedRow.holds Yba.pinned (OpenSpec.ofChange lawS5090CHashedSpec)

/-- ITS FALSE NEIGHBOUR: 'it returns false'. Refute it at one input. -/
def lawS5090CHashedWrong : ChangeSpec := { name := "lawS5090CHashed", fn := fun _ => fun
  | [d1, d2, d3, d4, d5, d6] => { results := [.lit (.bool false)], args := [d1, d2, d3, d4, d5, d6] }
  | _ => none }
def LawS5090CHashedWrongFalsely : Prop := lawS5090CHashedRow.holds Yba.pinned (OpenSpec.ofChange lawS5090CHashedWrong)

/-- 'gridsieve.LawS5090CFewRow': WHATEVER THE INPUT: true; the input reads as it did. -/
def lawS5090CFewRowSpec : ChangeSpec := { name := "lawS5090CFewRow", fn := fun _ => fun
  | [d1, d2, d3, d4, d5] => { results := [.lit (.bool true)], args := [d1, d2, d3, d4, d5] }
  | _ => none }
def lawS5090CFewRowRow : OpenClaim := { program := "ybulkdaju", sum := "749d89b64427532ae2e9a86967a7650a87d51bd4cf329d8562eca9b37d3db6c3", func := "example.com/gridsieve/gridsieve.LawS5090CFewRow", spec := "lawS5090CFewRow", unfollowed := true, recurses := true, named := ["encoding/binary.LittleEndian"], apart := false }
def LawS5090CFewRowSaid : Prop := lawS5090CFewRowRow.holds Yba.pinned (OpenSpec.ofChange lawS5090CFewRowSpec)

/-- ITS FALSE NEIGHBOUR: 'it returns false'. Refute it at one input. -/
def lawS5090CFewRowWrong : ChangeSpec := { name := "lawS5090CFewRow", fn := fun _ => fun
  | [d1, d2, d3, d4, d5] => { results := [.lit (.bool false)], args := [d1, d2, d3, d4, d5] }
  | _ => none }
def LawS5090CFewRowWrongFalsely : Prop := lawS5090CFewRowRow.holds Yba.pinned (OpenSpec.ofChange lawS5090CFewRowWrong)

/-- 'gridsieve.LawS5090CRowsAgree': WHATEVER THE INPUT: true; the input reads as it did. -/
def lawS5090CRowsAgreeSpec : ChangeSpec := { name := "lawS5090CRowsAgree", fn := fun _ => fun
  | [d1, d2, d3, d4, d5, d6, d7, d8] => { results := [.lit (.bool true)], args := [d1, d2, d3, d4, d5, d6, d7, d8] }
  | _ => none }
def lawS5090CRowsAgreeRow : OpenClaim := { program := "ybulkdaju", sum := "749d89b64427532ae2e9a86967a7650a87d51bd4cf329d8562eca9b37d3db6c3", func := "example.com/gridsieve/gridsieve.LawS5090CRowsAgree", spec := "lawS5090CRowsAgree", unfollowed := true, recurses := true, named := ["encoding/binary.LittleEndian"], apart := false }
def LawS5090CRowsAgreeSaid : Prop := lawS5090CRowsAgreeRow.holds Yba.pinned (OpenSpec.ofChange lawS5090CRowsAgreeSpec)

/-- ITS FALSE NEIGHBOUR: 'it returns false'. Refute it at one input. -/
def lawS5090CRowsAgreeWrong : ChangeSpec := { name := "lawS5090CRowsAgree", fn := fun _ => fun
  | [d1, d2, d3, d4, d5, d6, d7, d8] => { results := [.lit (.bool false)], args := [d1, d2, d3, d4, d5, d6, d7, d8] }
  | _ => none }
def LawS5090CRowsAgreeWrongFalsely : Prop := lawS5090CRowsAgreeRow.holds Yba.pinned (OpenSpec.ofChange lawS5090CRowsAgreeWrong)

end Rows
end Go.Proofs.Ybulkdaju
