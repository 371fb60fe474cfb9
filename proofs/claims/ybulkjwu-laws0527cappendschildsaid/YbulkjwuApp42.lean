/-
  Lists of containers: append of one pointer; what stands behind it.
-/
import Derived.Test.YbulkjwuPush3
namespace Go.Proofs.Ybulkjwu
open Go.RowKit
set_option linter.unusedSimpArgs false
set_option linter.unusedVariables false

theorem info42 : (Yba.prog.info? 42).map (fun i => (i.zero, i.size, i.bytes)) = some (some (.pointer none), 1, 8) := by kernel_rfl

/-- A container, as cells. -/
def contCells (nm : ByteArray) (line : Int) (vS vT : Value) : Array Value := #[.string nm, .int .i64 line, .pointer none, .int .i64 0, .slice none 0 0, .int .i64 0, .slice none 0 0, vS, vT]

/-- What 'append(list, x)' leaves. -/
structure App1 (w w' : World) (v v' : Value) (n : Nat) (xs : List Value) (x : Value) : Prop where
  own : w'.ownsRow 0 42 1 v' (n + 1) (xs ++ [x])
  block : ∀ k, k < w.heap.size → v.ownBlock ≠ some k → w'.heap[k]? = w.heap[k]?
  lies : v'.ownBlock = v.ownBlock ∨ ∃ g, v'.ownBlock = some g ∧ w.heap.size ≤ g
  size : w.heap.size + 1 ≤ w'.heap.size
  os : w'.os = w.os
  tape : w'.tape = w.tape
  output : w'.output = w.output

theorem app42 (w : World) (v : Value) (n k : Nat) (xs : List Value) (x : Value) (hown : w.ownsRow 0 42 1 v n xs) (hn : n ≤ 10000) (h1 : x.oneCell' = true) :
    ∃ v' w', (Builtin.append_ #[46, 46] 46 #[v, .slice (some ⟨w.heap.size, 0, none⟩) 1 1]).run Yba.prog ((w.alloc (.cells #[x] 42)).drewN k) = .ok v' w' ∧
      ∃ g cp, v' = .slice (some ⟨g, 0, none⟩) (n + 1) cp ∧ n + 1 ≤ cp ∧ App1 w w' v v' n xs x := by
  obtain ⟨i0, hi, hz0, hz1, hz2⟩ := info_parts info42
  have hW : ((w.alloc (.cells #[x] 42)).drewN k).ownsRow 0 42 1 v n xs := hown.alloc _
  have hsz : ((w.alloc (.cells #[x] 42)).drewN k).heap.size = w.heap.size + 1 := by
    show (w.alloc (.cells #[x] 42)).heap.size = _
    simp
  have hold : ∀ j, j < w.heap.size → ((w.alloc (.cells #[x] 42)).drewN k).heap[j]? = w.heap[j]? := fun j hj => Below.heap_alloc _ _ _ hj
  have hX : ((w.alloc (.cells #[x] 42)).drewN k).cell? ⟨w.heap.size, 0, none⟩ = some x := cell_of_row _ _ 0 _ 42 (0, 0) (heap_alloc_new w (.cells #[x] 42))
  obtain ⟨v', w', hrun, hown', hgr, hsn, g, cp, hv, hcp⟩ := append1 _ 46 46 42 i0 (.pointer none) 8 Yba.underlying46 hi hz0 hz1 hz2 rfl (by omega) v n xs hW ⟨w.heap.size, 0, none⟩ x 1 hX rfl h1 hn
  refine ⟨v', w', hrun, g, cp, hv, hcp, ⟨hown', fun j hj hne => ?_, ?_, by have := hgr.size; rw [hsz] at this; exact this, hgr.os, hgr.tape, hgr.output⟩⟩
  · rw [hgr.block _ (by rw [hsz]; omega) (fun e => hne e.symm)]
    exact hold j hj
  · rcases hsn with h | ⟨g', h, hge⟩
    · exact .inl h
    · rw [hsz] at hge
      exact .inr ⟨g', h, by omega⟩

theorem mk46 (n : Nat) (hn : n ≤ 1000) (W : World) : (Instr.makeSlice 46 (.int .i64 0) (.int .i64 (n : Int))).run Yba.prog W = .ok (.slice (some ⟨W.heap.size, 0, none⟩) 0 n) (W.alloc (.cells (madeCells (Value.pointer none).cells n) 42)) := by
  obtain ⟨i0, hi, hz0, hz1, hz2⟩ := info_parts info42
  have h := run_make (P := Yba.prog) W 46 42 i0 _ Yba.underlying46 hi hz0 .i64 .i64 0 n (Int.le_refl _) (by omega) (by rw [hz2]; omega) (by omega)
  simp only [Int.toNat_zero, Int.toNat_natCast, hz1, Nat.mul_one] at h
  exact h

theorem mk46_own (n : Nat) (hn : n ≤ 1000) (W : World) : (W.alloc (.cells (madeCells (Value.pointer none).cells n) 42)).ownsRow 0 42 1 (.slice (some ⟨W.heap.size, 0, none⟩) 0 n) 0 [] := by
  refine ⟨by simp, .inr ⟨W.heap.size, n, _, rfl, Nat.zero_le _, heap_alloc_new W _, Nat.zero_le _, by unfold maxLen; omega, by rw [size_madeCells]; omega, by simp⟩⟩

end Go.Proofs.Ybulkjwu
