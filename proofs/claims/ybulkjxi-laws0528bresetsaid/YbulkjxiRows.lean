/-
  No cell of these rows narrows 'for every input' (looked for: loops, veiled, ifaces, maps, wideKeys, modest, calm, conditions, laid).
  DERIVED. THE GIVEN ROWS OF THIS SEAT. 1 by the template 'for every input the law returns true; each argument reads behind the call as it read before'; 0 by the template 'total and deterministic' (their statements: YbulkjxiTotals.lean).
  GIVEN WITH THE SEED: the statements are not yours to turn. If you find one false, say at which input.
  Laid BY PROGRAM, IN A SANDBOX (cutbox-rows.mjs): the forced cells as the released guide's own fill.sh prints them over the translation 07e15ec58744281b… (all of the seat's roots in one cut). By AI agents, Wed Nov 11 2026. No macro, syntax, notation, axiom, sorry.
-/
import Derived.Test.YbulkjxiChecked
import GoSem.Claim
import GoSem.ClaimJoined
import GoSem.ClaimMapViews
import Derived.JoinedTies
import Derived.KernelRfl
namespace Go.Proofs.Ybulkjxi
/- THE CELL 'sum', in the pinned program and in every row, IS THE sha256 OF THE DUMP (.gsa) THAT YbulkjxiProg.lean LOADS. Nothing in Lean hashes anything: it is a label: what it is worth is what the hold of that sum in a sandbox is worth. -/
noncomputable def Yba.pinned : Pinned := { name := "ybulkjxi", sum := "07e15ec58744281b5a8d0dd485d2aa8c033e51ea6cd1ad882bcdad0b3c706f6e", checked := Yba.checked }
namespace Rows
def none {H : Type} : Left H := { results := [], args := [] }

/-- 'btree.LawS0528BReset': WHATEVER THE INPUT: true; the input reads as it did. -/
def lawS0528BResetSpec : ChangeSpec := { name := "lawS0528BReset", fn := fun _ => fun
  | [d] => { results := [.lit (.bool true)], args := [d] }
  | _ => none }
def lawS0528BResetRow : OpenClaim := { program := "ybulkjxi", sum := "07e15ec58744281b5a8d0dd485d2aa8c033e51ea6cd1ad882bcdad0b3c706f6e", func := "example.com/tumbler/tumbler/internal/btree.LawS0528BReset", spec := "lawS0528BReset", inPlace := ["slices.overlaps[example.com/tumbler/tumbler/internal/btree.item[struct{}]]", "slices.overlaps[*example.com/tumbler/tumbler/internal/btree.node[struct{}]]"], apart := false }
def LawS0528BResetSaid : Prop := lawS0528BResetRow.holds Yba.pinned (OpenSpec.ofChange lawS0528BResetSpec)

/-- ITS FALSE NEIGHBOUR: 'it returns false'. Refute it at one input. -/
def lawS0528BResetWrong : ChangeSpec := { name := "lawS0528BReset", fn := fun _ => fun
  | [d] => { results := [.lit (.bool false)], args := [d] }
  | _ => none }
def LawS0528BResetWrongFalsely : Prop := lawS0528BResetRow.holds Yba.pinned (OpenSpec.ofChange lawS0528BResetWrong)

end Rows
end Go.Proofs.Ybulkjxi
