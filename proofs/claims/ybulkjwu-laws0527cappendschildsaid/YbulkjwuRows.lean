/-
  No cell of these rows narrows 'for every input' (looked for: loops, veiled, ifaces, maps, wideKeys, modest, calm, conditions, laid).
  DERIVED. THE GIVEN ROWS OF THIS SEAT. 2 by the template 'for every input the law returns true; each argument reads behind the call as it read before'; 0 by the template 'total and deterministic' (their statements: YbulkjwuTotals.lean).
  GIVEN WITH THE SEED: the statements are not yours to turn. If you find one false, say at which input.
  Laid BY PROGRAM, IN A SANDBOX (cutbox-rows.mjs): the forced cells as the released guide's own fill.sh prints them over the translation 9e1b3ffec817c071… (all of the seat's roots in one cut). By AI agents, Wed Nov 11 2026. No macro, syntax, notation, axiom, sorry.
-/
import Derived.Test.YbulkjwuChecked
import GoSem.Claim
import GoSem.ClaimJoined
import GoSem.ClaimMapViews
import Derived.JoinedTies
import Derived.KernelRfl
namespace Go.Proofs.Ybulkjwu
/- THE CELL 'sum', in the pinned program and in every row, IS THE sha256 OF THE DUMP (.gsa) THAT YbulkjwuProg.lean LOADS. Nothing in Lean hashes anything: it is a label: what it is worth is what the hold of that sum in a sandbox is worth. -/
noncomputable def Yba.pinned : Pinned := { name := "ybulkjwu", sum := "9e1b3ffec817c0718ba6bcea2a86146591228f245f0afae6783a270b4bf20b5f", checked := Yba.checked }
namespace Rows
def none {H : Type} : Left H := { results := [], args := [] }

/-- 'pilcrow.LawS0527AClose': WHATEVER THE INPUT: true; the input reads as it did. -/
def lawS0527ACloseSpec : ChangeSpec := { name := "lawS0527AClose", fn := fun _ => fun
  | [d1, d2, d3, d4, d5, d6] => { results := [.lit (.bool true)], args := [d1, d2, d3, d4, d5, d6] }
  | _ => none }
def lawS0527ACloseRow : OpenClaim := { program := "ybulkjwu", sum := "9e1b3ffec817c0718ba6bcea2a86146591228f245f0afae6783a270b4bf20b5f", func := "example.com/pilcrow/pilcrow.LawS0527AClose", spec := "lawS0527AClose", apart := false }
def LawS0527ACloseSaid : Prop := lawS0527ACloseRow.holds Yba.pinned (OpenSpec.ofChange lawS0527ACloseSpec)

/-- ITS FALSE NEIGHBOUR: 'it returns false'. Refute it at one input. -/
def lawS0527ACloseWrong : ChangeSpec := { name := "lawS0527AClose", fn := fun _ => fun
  | [d1, d2, d3, d4, d5, d6] => { results := [.lit (.bool false)], args := [d1, d2, d3, d4, d5, d6] }
  | _ => none }
def LawS0527ACloseWrongFalsely : Prop := lawS0527ACloseRow.holds Yba.pinned (OpenSpec.ofChange lawS0527ACloseWrong)

/-- 'pilcrow.LawS0527CAppendsChild': WHATEVER THE INPUT: true; the input reads as it did. -/
def lawS0527CAppendsChildSpec : ChangeSpec := { name := "lawS0527CAppendsChild", fn := fun _ => fun
  | [d1, d2, d3, d4] => { results := [.lit (.bool true)], args := [d1, d2, d3, d4] }
  | _ => none }
def lawS0527CAppendsChildRow : OpenClaim := { program := "ybulkjwu", sum := "9e1b3ffec817c0718ba6bcea2a86146591228f245f0afae6783a270b4bf20b5f", func := "example.com/pilcrow/pilcrow.LawS0527CAppendsChild", spec := "lawS0527CAppendsChild", apart := false }
def LawS0527CAppendsChildSaid : Prop := lawS0527CAppendsChildRow.holds Yba.pinned (OpenSpec.ofChange lawS0527CAppendsChildSpec)

/-- ITS FALSE NEIGHBOUR: 'it returns false'. Refute it at one input. -/
def lawS0527CAppendsChildWrong : ChangeSpec := { name := "lawS0527CAppendsChild", fn := fun _ => fun
  | [d1, d2, d3, d4] => { results := [.lit (.bool false)], args := [d1, d2, d3, d4] }
  | _ => none }
def LawS0527CAppendsChildWrongFalsely : Prop := lawS0527CAppendsChildRow.holds Yba.pinned (OpenSpec.ofChange lawS0527CAppendsChildWrong)

end Rows
end Go.Proofs.Ybulkjwu
