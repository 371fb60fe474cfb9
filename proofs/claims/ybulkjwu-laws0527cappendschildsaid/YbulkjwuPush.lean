/-
  push onto the stack of open objects, out of whatever grow does.
-/
import Derived.Test.YbulkjwuStk
namespace Go.Proofs.Ybulkjwu
open Go.RowKit
set_option linter.unusedSimpArgs false
set_option linter.unusedVariables false

/-- An open object, as cells. -/
def objCells (pa : Option Addr) (s1 : ByteArray) (ix : Int) : Array Value := #[.pointer pa, .string s1, .int .i64 ix, .bool false, .bool false, .bool false, .bool false, .bool false, .bool false, .string ⟨#[]⟩]

/-- The same memory, whatever was drawn. -/
def SameMem (X Y : World) : Prop := X.heap = Y.heap ∧ X.os = Y.os ∧ X.tape = Y.tape ∧ X.output = Y.output

theorem SameMem.refl (X : World) : SameMem X X := by unfold SameMem; exact ⟨rfl, rfl, rfl, rfl⟩
theorem SameMem.drew (X : World) : SameMem X.drew X := by unfold SameMem; exact ⟨rfl, rfl, rfl, rfl⟩
theorem SameMem.drewN (X : World) (n : Nat) : SameMem (X.drewN n) X := by unfold SameMem; exact ⟨rfl, rfl, rfl, rfl⟩

set_option maxHeartbeats 1000000 in
theorem push_of (r o : Nat) (pa : Option Addr) (s1 : ByteArray) (ix : Int) (w : World) (G : World → Nat → Nat → Prop)
    (hgrow : ∀ X, SameMem X (w.alloc (.cells (objCells pa s1 ix) 66)) → Calls Yba.prog 15 #[.pointer (some ⟨r, o, none⟩)] X fun e w' => ∃ T q, e = .returned (.pointer (some ⟨T, q, none⟩)) ∧ G w' T q)
    (hG : ∀ w' T q, G w' T q → (∀ i, i < 10 → ∃ u, w'.cell? ⟨T, q + i, none⟩ = some u) ∧ (∀ i, w'.frozen? ⟨T, q + i, none⟩ = false) ∧ w'.heap[w.heap.size]? = some (.cells (objCells pa s1 ix) 66) ∧ T ≠ w.heap.size) :
    Calls Yba.prog 13 #[.pointer (some ⟨r, o, none⟩), .agg (objCells pa s1 ix)] w fun e w'' => e = .returned (.tuple #[]) ∧ ∃ w' T q, G w' T q ∧ SameMem w'' (w'.setCells T q (objCells pa s1 ix).toList) := by
  unfold objCells at *
  have facts : ∀ w' T q, G w' T q → T ≠ w.heap.size ∧ (w'.cell? ⟨w.heap.size, 0, none⟩ = some (.pointer pa) ∧ w'.cell? ⟨w.heap.size, 1, none⟩ = some (.string s1) ∧ w'.cell? ⟨w.heap.size, 2, none⟩ = some (.int .i64 ix) ∧ w'.cell? ⟨w.heap.size, 3, none⟩ = some (.bool false) ∧ w'.cell? ⟨w.heap.size, 4, none⟩ = some (.bool false) ∧
      w'.cell? ⟨w.heap.size, 5, none⟩ = some (.bool false) ∧ w'.cell? ⟨w.heap.size, 6, none⟩ = some (.bool false) ∧ w'.cell? ⟨w.heap.size, 7, none⟩ = some (.bool false) ∧ w'.cell? ⟨w.heap.size, 8, none⟩ = some (.bool false) ∧ w'.cell? ⟨w.heap.size, 9, none⟩ = some (.string ⟨#[]⟩)) ∧
      (∃ u0 u1 u2 u3 u4 u5 u6 u7 u8 u9, w'.cell? ⟨T, q, none⟩ = some u0 ∧ w'.cell? ⟨T, q + 1, none⟩ = some u1 ∧ w'.cell? ⟨T, q + 2, none⟩ = some u2 ∧ w'.cell? ⟨T, q + 3, none⟩ = some u3 ∧ w'.cell? ⟨T, q + 4, none⟩ = some u4 ∧
        w'.cell? ⟨T, q + 5, none⟩ = some u5 ∧ w'.cell? ⟨T, q + 6, none⟩ = some u6 ∧ w'.cell? ⟨T, q + 7, none⟩ = some u7 ∧ w'.cell? ⟨T, q + 8, none⟩ = some u8 ∧ w'.cell? ⟨T, q + 9, none⟩ = some u9) ∧
      w'.frozen? ⟨T, q, none⟩ = false ∧ ∀ i, w'.frozen? ⟨T, q + i, none⟩ = false := by
    intro w' T q hg
    obtain ⟨h1, h2, h3, h4⟩ := hG w' T q hg
    have cc : ∀ i, w'.cell? ⟨w.heap.size, i, none⟩ = _ := fun i => cell_of_row w' w.heap.size i _ 66 (0, 0) h3
    obtain ⟨u0, e0⟩ := h1 0 (by omega)
    obtain ⟨u1, e1⟩ := h1 1 (by omega)
    obtain ⟨u2, e2⟩ := h1 2 (by omega)
    obtain ⟨u3, e3⟩ := h1 3 (by omega)
    obtain ⟨u4, e4⟩ := h1 4 (by omega)
    obtain ⟨u5, e5⟩ := h1 5 (by omega)
    obtain ⟨u6, e6⟩ := h1 6 (by omega)
    obtain ⟨u7, e7⟩ := h1 7 (by omega)
    obtain ⟨u8, e8⟩ := h1 8 (by omega)
    obtain ⟨u9, e9⟩ := h1 9 (by omega)
    exact ⟨h4, ⟨cc 0, cc 1, cc 2, cc 3, cc 4, cc 5, cc 6, cc 7, cc 8, cc 9⟩, ⟨u0, u1, u2, u3, u4, u5, u6, u7, u8, u9, e0, e1, e2, e3, e4, e5, e6, e7, e8, e9⟩, h2 0, h2⟩
  clear hG
  go_enter Yba.func13, Yba.ntmps13
  go_wp2_with fail
  go_region_with (go_at_call 15; refine (hgrow _ (SameMem.drew _)).mono ?_; rintro e w' ⟨T, q, rfl, hg⟩; obtain ⟨hne, ⟨c0, c1, c2, c3, c4, c5, c6, c7, c8, c9⟩, ⟨u0, u1, u2, u3, u4, u5, u6, u7, u8, u9, e0, e1, e2, e3, e4, e5, e6, e7, e8, e9⟩, f0, ff⟩ := facts w' T q hg)
  all_goals
    try go_wp2
    go_end0
    refine ⟨rfl, w', T, q, hg, ?_⟩
    simp only [World.setCells, Nat.add_assoc, Nat.reduceAdd]
    exact SameMem.refl _

end Go.Proofs.Ybulkjwu
