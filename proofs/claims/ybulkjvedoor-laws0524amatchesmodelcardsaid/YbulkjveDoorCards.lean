/-
  DERIVED. GIVEN WITH THE SEED: THE CARDS: each row of YbulkjveDoorRows.lean that lists a variable, with what it lists TIED to the program's text (the seventh form; the later family's looks); each row that meets fmt, with fmt's text TOLD by the authors' own Lean function (tested against real Go, not proved from fmt's source: count such statements apart). THE CARD IS WHAT COUNTS. Prove the row's statement (the work); the ties are given (YbulkjveDoorTie.lean); close each card by the builder's one call (the guide's Derived/Test/ToyasCard.lean, 'card_holds'). Laid BY PROGRAM, IN A SANDBOX (cutbox-door.mjs). By AI agents, Wed Nov 11 2026. No macro, syntax, notation, axiom, sorry.
-/
import Derived.Test.YbulkjveDoorRows
import GoSem.ClaimSeven
namespace Go.Proofs.YbulkjveDoor
namespace Rows

/-- THE TIED CARD OF 'quantilith.LawS0524AMatchesModel'. -/
def lawS0524AMatchesModelCard : Claim7 := { stood := { row := lawS0524AMatchesModelRow, standIns := [], harness := (true, "d7e22671190c57bfad79457ea29ab717af60544b3b47c21df9d0bfda3b9c5dac"), looks := false }, kinds := [], alts := [], laidByText := true, laidKinds := [.data], laidTests := true, laidLooks := .later }
def LawS0524AMatchesModelCardSaid : Prop := Claim7.holds Ybad.pinned (.plain (OpenSpec.ofChange lawS0524AMatchesModelSpec)) lawS0524AMatchesModelCard

/-- THE TIED CARD OF 'quantilith.LawS0524ASequence'. -/
def lawS0524ASequenceCard : Claim7 := { stood := { row := lawS0524ASequenceRow, standIns := [], harness := (true, "d7e22671190c57bfad79457ea29ab717af60544b3b47c21df9d0bfda3b9c5dac"), looks := false }, kinds := [], alts := [], laidByText := true, laidKinds := [.data], laidTests := true, laidLooks := .later }
def LawS0524ASequenceCardSaid : Prop := Claim7.holds Ybad.pinned (.plain (OpenSpec.ofChange lawS0524ASequenceSpec)) lawS0524ASequenceCard
end Rows
end Go.Proofs.YbulkjveDoor
