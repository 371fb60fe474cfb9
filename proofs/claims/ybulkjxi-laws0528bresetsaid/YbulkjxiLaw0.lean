/-
  LawS0528BReset: the strings that it cuts.
-/
import Derived.Test.YbulkjxiReset
namespace Go.Proofs.Ybulkjxi
open Go.RowKit Go.Maps
set_option linter.unusedSimpArgs false
set_option linter.unusedVariables false

def keysB : ByteArray := ⟨#[48, 49, 50, 51, 52, 53, 54, 55, 56, 57, 97, 98, 99, 100, 101, 102]⟩
def keyOfN (i : Nat) : ByteArray := ⟨#[keysB.data.getD i 0]⟩

theorem keyN_mem (k : Nat) (hk : k < 16) : Lit.string (keyOfN k).data.toList ∈ keyLits ∧ (keyOfN k).size ≤ maxLen := by
  have hs : (keyOfN k).size = 1 := rfl
  refine ⟨?_, by rw [hs]; unfold maxLen; omega⟩
  have h : k = 0 ∨ k = 1 ∨ k = 2 ∨ k = 3 ∨ k = 4 ∨ k = 5 ∨ k = 6 ∨ k = 7 ∨ k = 8 ∨ k = 9 ∨ k = 10 ∨ k = 11 ∨ k = 12 ∨ k = 13 ∨ k = 14 ∨ k = 15 := by omega
  rcases h with rfl | rfl | rfl | rfl | rfl | rfl | rfl | rfl | rfl | rfl | rfl | rfl | rfl | rfl | rfl | rfl
  all_goals simp [keyLits, keyOfN, keysB]

theorem slice_name (t : Nat) (ht : t < 12) (W : World) : (Instr.slice 9 (.string ⟨#[97, 98, 99, 100, 101, 102, 103, 104, 105, 106, 107, 108]⟩) (some (.int .i64 (t : Int))) (some (.int .i64 ((t : Int) + 1))) none).run Yba.prog W = .ok (.string (nameOf t)) W := by
  have h : t = 0 ∨ t = 1 ∨ t = 2 ∨ t = 3 ∨ t = 4 ∨ t = 5 ∨ t = 6 ∨ t = 7 ∨ t = 8 ∨ t = 9 ∨ t = 10 ∨ t = 11 := by omega
  rcases h with rfl | rfl | rfl | rfl | rfl | rfl | rfl | rfl | rfl | rfl | rfl | rfl
  all_goals first | rfl | (simp [go_sem, Yba.underlying9, nameOf, names, keyOfN, keysB]; rfl) | (simp [go_sem, Yba.underlying9, nameOf, names, keyOfN, keysB]; done)

theorem slice_key (t : Nat) (ht : t < 16) (W : World) : (Instr.slice 9 (.string ⟨#[48, 49, 50, 51, 52, 53, 54, 55, 56, 57, 97, 98, 99, 100, 101, 102]⟩) (some (.int .i64 (t : Int))) (some (.int .i64 ((t : Int) + 1))) none).run Yba.prog W = .ok (.string (keyOfN t)) W := by
  have h : t = 0 ∨ t = 1 ∨ t = 2 ∨ t = 3 ∨ t = 4 ∨ t = 5 ∨ t = 6 ∨ t = 7 ∨ t = 8 ∨ t = 9 ∨ t = 10 ∨ t = 11 ∨ t = 12 ∨ t = 13 ∨ t = 14 ∨ t = 15 := by omega
  rcases h with rfl | rfl | rfl | rfl | rfl | rfl | rfl | rfl | rfl | rfl | rfl | rfl | rfl | rfl | rfl | rfl
  all_goals first | rfl | (simp [go_sem, Yba.underlying9, nameOf, names, keyOfN, keysB]; rfl) | (simp [go_sem, Yba.underlying9, nameOf, names, keyOfN, keysB]; done)

end Go.Proofs.Ybulkjxi
