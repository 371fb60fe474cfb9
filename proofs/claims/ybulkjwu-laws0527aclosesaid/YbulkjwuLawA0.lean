/-
  LawS0527AClose: the scan as the law makes it; what stands behind close.
-/
import Derived.Test.YbulkjwuClose
import Derived.Deep.RegionWith
namespace Go.Proofs.Ybulkjwu
open Go.RowKit
set_option linter.unusedSimpArgs false
set_option linter.unusedVariables false

/-- The world in which the law calls close. -/
def made (w2 : World) (fb v0 v3 : Value) (pos used dep : Int) (s5 : ByteArray) : World :=
  ((w2.alloc (.cells #[fb] 23)).alloc (.cells #[.slice (some ⟨w2.heap.size, 0, none⟩) 1 1] 24)).alloc
    (.cells #[v0, .int .i64 pos, .string s5, v3, .pointer (some ⟨w2.heap.size + 1, 0, none⟩), .int .i64 used, .int .i64 dep, .slice none 0 0] 32)

structure Made (w2 W : World) (fb v0 v3 : Value) (pos used dep : Int) (s5 : ByteArray) : Prop where
  scan : Scan W (w2.heap.size + 1 + 1) v0 v3 (.pointer (some ⟨w2.heap.size + 1, 0, none⟩)) pos dep used s5
  cC : W.cell? ⟨w2.heap.size + 1, 0, none⟩ = some (.slice (some ⟨w2.heap.size, 0, none⟩) 1 1)
  cR : W.cell? ⟨w2.heap.size, 0, none⟩ = some fb
  fR : W.frozen? ⟨w2.heap.size, 0, none⟩ = false
  size : W.heap.size = w2.heap.size + 1 + 1 + 1
  below : Below w2.heap.size w2 W

theorem made_facts (w2 : World) (fb v0 v3 : Value) (pos used dep : Int) (s5 : ByteArray) : Made w2 (made w2 fb v0 v3 pos used dep s5) fb v0 v3 pos used dep s5 := by
  unfold made
  have nS : (((w2.alloc (.cells #[fb] 23)).alloc (.cells #[.slice (some ⟨w2.heap.size, 0, none⟩) 1 1] 24)).alloc
    (.cells #[v0, .int .i64 pos, .string s5, v3, .pointer (some ⟨w2.heap.size + 1, 0, none⟩), .int .i64 used, .int .i64 dep, .slice none 0 0] 32)).heap[w2.heap.size + 1 + 1]? = some (.cells #[v0, .int .i64 pos, .string s5, v3, .pointer (some ⟨w2.heap.size + 1, 0, none⟩), .int .i64 used, .int .i64 dep, .slice none 0 0] 32) := by
    have := heap_alloc_new ((w2.alloc (.cells #[fb] 23)).alloc (.cells #[.slice (some ⟨w2.heap.size, 0, none⟩) 1 1] 24)) (.cells #[v0, .int .i64 pos, .string s5, v3, .pointer (some ⟨w2.heap.size + 1, 0, none⟩), .int .i64 used, .int .i64 dep, .slice none 0 0] 32)
    simpa only [World.size_alloc] using this
  have nC : (((w2.alloc (.cells #[fb] 23)).alloc (.cells #[.slice (some ⟨w2.heap.size, 0, none⟩) 1 1] 24)).alloc
    (.cells #[v0, .int .i64 pos, .string s5, v3, .pointer (some ⟨w2.heap.size + 1, 0, none⟩), .int .i64 used, .int .i64 dep, .slice none 0 0] 32)).heap[w2.heap.size + 1]? = some (.cells #[.slice (some ⟨w2.heap.size, 0, none⟩) 1 1] 24) := by
    rw [Below.heap_alloc _ _ _ (by simp)]
    have := heap_alloc_new (w2.alloc (.cells #[fb] 23)) (.cells #[.slice (some ⟨w2.heap.size, 0, none⟩) 1 1] 24)
    simpa only [World.size_alloc] using this
  have nR : (((w2.alloc (.cells #[fb] 23)).alloc (.cells #[.slice (some ⟨w2.heap.size, 0, none⟩) 1 1] 24)).alloc
    (.cells #[v0, .int .i64 pos, .string s5, v3, .pointer (some ⟨w2.heap.size + 1, 0, none⟩), .int .i64 used, .int .i64 dep, .slice none 0 0] 32)).heap[w2.heap.size]? = some (.cells #[fb] 23) := by
    rw [Below.heap_alloc _ _ _ (by simp; omega), Below.heap_alloc _ _ _ (by simp)]
    exact heap_alloc_new w2 _
  refine ⟨⟨?_, ?_, ?_, ?_, ?_, ?_, ?_, ?_, ?_⟩, ?_, ?_, ?_, by simp, ?_⟩
  · exact cell_of_row _ _ 0 _ 32 (0, 0) nS
  · exact cell_of_row _ _ 1 _ 32 (0, 0) nS
  · exact cell_of_row _ _ 2 _ 32 (0, 0) nS
  · exact cell_of_row _ _ 3 _ 32 (0, 0) nS
  · exact cell_of_row _ _ 4 _ 32 (0, 0) nS
  · exact cell_of_row _ _ 5 _ 32 (0, 0) nS
  · exact cell_of_row _ _ 6 _ 32 (0, 0) nS
  · exact cell_of_row _ _ 7 _ 32 (0, 0) nS
  · intro o; exact frozen_of_row _ _ o _ 32 nS
  · exact cell_of_row _ _ 0 _ 24 (0, 0) nC
  · exact cell_of_row _ _ 0 _ 23 (0, 0) nR
  · exact frozen_of_row _ _ 0 _ 23 nR
  · exact (((Below.refl _ _).alloc (Nat.le_refl _) _).alloc (by simp) _).alloc (by simp; omega) _

theorem slice_last (W : World) (a : Option Addr) (n c : Nat) (h1 : 1 ≤ n) (h2 : n ≤ c) :
    (Instr.slice 23 (.slice a n c) none (some (.int .i64 ((n : Int) - 1))) none).run Yba.prog W = .ok (.slice a (n - 1) c) W := by
  have e1 : (n : Int) - 1 ≤ (c : Int) := by omega
  have e2 : ((n : Int) - 1).toNat = n - 1 := by omega
  simp [go_sem, e1, e2, Yba.underlying23]
  intro h
  omega

end Go.Proofs.Ybulkjwu
