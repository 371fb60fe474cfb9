/-
  NARROWER THAN 'FOR EVERY INPUT', by the rows' own cells (each row's printed sentence says how): LawS0524AMatchesModel: laid · LawS0524ASequence: laid.
  DERIVED. THE GIVEN ROWS OF THIS SEAT. 2 by the template 'for every input the law returns true; each argument reads behind the call as it read before'; 0 by the template 'total and deterministic' (their statements: YbulkjveDoorTotals.lean).
  GIVEN WITH THE SEED: the statements are not yours to turn. If you find one false, say at which input.
  Laid BY PROGRAM, IN A SANDBOX (cutbox-rows.mjs): the forced cells as the released guide's own fill.sh prints them over the translation 64f84444baec4739… (all of the seat's roots in one cut). By AI agents, Wed Nov 11 2026. No macro, syntax, notation, axiom, sorry.
-/
import Derived.Test.YbulkjveDoorChecked
import GoSem.Claim
import GoSem.ClaimJoined
import GoSem.ClaimMapViews
import Derived.JoinedTies
import Derived.KernelRfl
namespace Go.Proofs.YbulkjveDoor
/- THE CELL 'sum', in the pinned program and in every row, IS THE sha256 OF THE DUMP (.gsa) THAT YbulkjveDoorProg.lean LOADS. Nothing in Lean hashes anything: it is a label: what it is worth is what the hold of that sum in a sandbox is worth. -/
noncomputable def Ybad.pinned : Pinned := { name := "ybulkjvedoor", sum := "64f84444baec4739abd20da05a05f66ee17936eaad05ad0280a6a6db09eecba5", checked := Ybad.checked }
namespace Rows
def none {H : Type} : Left H := { results := [], args := [] }

/- WHAT THE LISTED PACKAGE-LEVEL VARIABLES READ AS WHEN THE CALL BEGINS. Each datum BY PROGRAM (the guide's laid-datum.mjs) off the statement by which the dump's own 'gosem.cut.vars' lays the variable. In a bare row this is a premise. The card (YbulkjveDoorCards.lean) ties it to the program's text. -/
def laid_example_com_quantilith_quantilith_seriesParts {H : Type} : DataW H := .agg [.lit (.string [95, 98, 117, 99, 107, 101, 116]), .lit (.string [95, 99, 111, 117, 110, 116]), .lit (.string [95, 115, 117, 109]), .lit (.string [95, 99, 114, 101, 97, 116, 101, 100])]

/-- 'quantilith.LawS0524AMatchesModel': WHATEVER THE INPUT: true; the input reads as it did. -/
def lawS0524AMatchesModelSpec : ChangeSpec := { name := "lawS0524AMatchesModel", vars := ["example.com/quantilith/quantilith.seriesParts"], fn := fun _ => fun
  | [d1, d2, d3, d4, d5, g1] => { results := [.lit (.bool true)], args := [d1, d2, d3, d4, d5], vars := [g1] }
  | _ => none }
def lawS0524AMatchesModelRow : OpenClaim := { program := "ybulkjvedoor", sum := "64f84444baec4739abd20da05a05f66ee17936eaad05ad0280a6a6db09eecba5", func := "example.com/quantilith/quantilith.LawS0524AMatchesModel", spec := "lawS0524AMatchesModel", named := ["example.com/quantilith/quantilith.seriesParts"], apart := false, laid := [("example.com/quantilith/quantilith.seriesParts", laid_example_com_quantilith_quantilith_seriesParts)] }
def LawS0524AMatchesModelSaid : Prop := lawS0524AMatchesModelRow.holds Ybad.pinned (OpenSpec.ofChange lawS0524AMatchesModelSpec)

/-- ITS FALSE NEIGHBOUR: 'it returns false'. Refute it at one input. -/
def lawS0524AMatchesModelWrong : ChangeSpec := { name := "lawS0524AMatchesModel", vars := ["example.com/quantilith/quantilith.seriesParts"], fn := fun _ => fun
  | [d1, d2, d3, d4, d5, g1] => { results := [.lit (.bool false)], args := [d1, d2, d3, d4, d5], vars := [g1] }
  | _ => none }
def LawS0524AMatchesModelWrongFalsely : Prop := lawS0524AMatchesModelRow.holds Ybad.pinned (OpenSpec.ofChange lawS0524AMatchesModelWrong)

/-- 'quantilith.LawS0524ASequence': WHATEVER THE INPUT: true; the input reads as it did. -/
def lawS0524ASequenceSpec : ChangeSpec := { name := "lawS0524ASequence", vars := ["example.com/quantilith/quantilith.seriesParts"], fn := fun _ => fun
  | [d1, d2, d3, d4, d5, g1] => { results := [.lit (.bool true)], args := [d1, d2, d3, d4, d5], vars := [g1] }
  | _ => none }
def lawS0524ASequenceRow : OpenClaim := { program := "ybulkjvedoor", sum := "64f84444baec4739abd20da05a05f66ee17936eaad05ad0280a6a6db09eecba5", func := "example.com/quantilith/quantilith.LawS0524ASequence", spec := "lawS0524ASequence", named := ["example.com/quantilith/quantilith.seriesParts"], apart := false, laid := [("example.com/quantilith/quantilith.seriesParts", laid_example_com_quantilith_quantilith_seriesParts)] }
def LawS0524ASequenceSaid : Prop := lawS0524ASequenceRow.holds Ybad.pinned (OpenSpec.ofChange lawS0524ASequenceSpec)

/-- ITS FALSE NEIGHBOUR: 'it returns false'. Refute it at one input. -/
def lawS0524ASequenceWrong : ChangeSpec := { name := "lawS0524ASequence", vars := ["example.com/quantilith/quantilith.seriesParts"], fn := fun _ => fun
  | [d1, d2, d3, d4, d5, g1] => { results := [.lit (.bool false)], args := [d1, d2, d3, d4, d5], vars := [g1] }
  | _ => none }
def LawS0524ASequenceWrongFalsely : Prop := lawS0524ASequenceRow.holds Ybad.pinned (OpenSpec.ofChange lawS0524ASequenceWrong)

end Rows
end Go.Proofs.YbulkjveDoor
