/-
  nextChunk, the first chunk full, no other made.
-/
import Derived.Test.YbulkjwuStk
namespace Go.Proofs.Ybulkjwu
open Go.RowKit
set_option linter.unusedSimpArgs false
set_option linter.unusedVariables false

set_option maxHeartbeats 2000000 in
/-- nextChunk, the first chunk full and no other made. -/
theorem next_C (r o : Nat) (fx : Option Addr) (fn : Nat) (w : World) (hr : r < w.heap.size) (h0 : w.cell? ⟨r, o, none⟩ = some (.slice fx fn 8))
    (h1 : w.cell? ⟨r, o + 1, none⟩ = some (.pointer none)) (h2 : w.cell? ⟨r, o + 2, none⟩ = some (.int .i64 0)) (hf : ∀ o, w.frozen? ⟨r, o, none⟩ = false) :
    Calls Yba.prog 17 #[.pointer (some ⟨r, o, none⟩)] w fun e w' => ∃ W w1 g cp m, (W.heap.size = w.heap.size + 1 ∧ W.os = w.os ∧ W.tape = w.tape ∧ W.output = w.output ∧ (∀ k, k < w.heap.size → k ≠ r → W.heap[k]? = w.heap[k]?) ∧
        W.heap[w.heap.size]? = some (.cells #[.slice none 0 0] 72) ∧ W.cell? ⟨r, o, none⟩ = some (.slice fx fn 8) ∧ W.cell? ⟨r, o + 1, none⟩ = some (.pointer (some ⟨w.heap.size, 0, none⟩)) ∧ W.heap[r]? = (w.setCell ⟨r, o + 1, none⟩ (.pointer (some ⟨w.heap.size, 0, none⟩))).heap[r]?) ∧
      App2 W w1 W.heap.size 0 0 g cp 16 [] ∧ e = .returned (.pointer (some ⟨g, 0, none⟩)) ∧
      w' = ((w1.setCell ⟨w.heap.size, 0, none⟩ (.slice (some ⟨g, 0, none⟩) 1 cp)).setCell ⟨r, o + 2, none⟩ (.int .i64 1)).drewN m := by
  have hmk : ∀ W : World, (Instr.makeSlice 50 (.int .i64 0) (.int .i64 16)).run Yba.prog W = .ok (.slice (some ⟨W.heap.size, 0, none⟩) 0 16) (W.alloc (.cells (chunkCells 16) 66)) := fun W => mk50 16 (by omega) W
  have hNr : w.heap.size ≠ r := by omega
  go_enter Yba.func17, Yba.ntmps17
  go_wp2_with fail
  obtain ⟨W0, hW0⟩ : ∃ W0, W0 = ((w.setCell ⟨r, o + 1, none⟩ (.pointer (some ⟨w.heap.size, 0, none⟩))).alloc (.cells #[.slice none 0 0] 72)) := ⟨_, rfl⟩
  rw [← hW0]
  have hsz : (w.setCell ⟨r, o + 1, none⟩ (.pointer (some ⟨w.heap.size, 0, none⟩))).heap.size = w.heap.size := by simp [World.setCell]
  have s1 : W0.heap.size = w.heap.size + 1 := by rw [hW0, World.size_alloc, hsz]
  have s2 : W0.os = w.os ∧ W0.tape = w.tape ∧ W0.output = w.output := by rw [hW0]; exact ⟨rfl, rfl, rfl⟩
  have s3 : ∀ k, k < w.heap.size → k ≠ r → W0.heap[k]? = w.heap[k]? := fun k hk hne => by rw [hW0, Below.heap_alloc _ _ _ (by omega), Below.heap_setCell _ _ _ _ hne]
  have s4 : W0.heap[w.heap.size]? = some (.cells #[.slice none 0 0] 72) := by
    have := heap_alloc_new (w.setCell ⟨r, o + 1, none⟩ (.pointer (some ⟨w.heap.size, 0, none⟩))) (.cells #[.slice none 0 0] 72)
    rw [hsz] at this
    rw [hW0]
    exact this
  have s5 : W0.heap[r]? = (w.setCell ⟨r, o + 1, none⟩ (.pointer (some ⟨w.heap.size, 0, none⟩))).heap[r]? := by rw [hW0, Below.heap_alloc _ _ _ (by omega)]
  have old : ∀ q, W0.cell? ⟨r, q, none⟩ = (w.setCell ⟨r, o + 1, none⟩ (.pointer (some ⟨w.heap.size, 0, none⟩))).cell? ⟨r, q, none⟩ := fun q => World.cell?_of_block (a := ⟨r, q, none⟩) s5
  have e0 : W0.cell? ⟨r, o, none⟩ = some (.slice fx fn 8) := by rw [old]; simp [go_sem, h0]
  have e1 : W0.cell? ⟨r, o + 1, none⟩ = some (.pointer (some ⟨w.heap.size, 0, none⟩)) := by rw [old]; simp [go_sem, h1]
  have e2 : W0.cell? ⟨r, o + 2, none⟩ = some (.int .i64 0) := by rw [old]; simp [go_sem, h2]
  have ef : ∀ q, W0.frozen? ⟨r, q, none⟩ = false := fun q => by rw [World.frozen?_of_block (a := ⟨r, q, none⟩) s5]; simp [go_sem, hf]
  have eM : W0.cell? ⟨w.heap.size, 0, none⟩ = some (.slice none 0 0) := cell_of_row _ _ 0 _ 72 (0, 0) s4
  have efM : W0.frozen? ⟨w.heap.size, 0, none⟩ = false := frozen_of_row _ _ 0 _ 72 s4
  have HF : Hid (W0.heap.size = w.heap.size + 1 ∧ W0.os = w.os ∧ W0.tape = w.tape ∧ W0.output = w.output ∧ (∀ k, k < w.heap.size → k ≠ r → W0.heap[k]? = w.heap[k]?) ∧
        W0.heap[w.heap.size]? = some (.cells #[.slice none 0 0] 72) ∧ W0.cell? ⟨r, o, none⟩ = some (.slice fx fn 8) ∧ W0.cell? ⟨r, o + 1, none⟩ = some (.pointer (some ⟨w.heap.size, 0, none⟩)) ∧ W0.heap[r]? = (w.setCell ⟨r, o + 1, none⟩ (.pointer (some ⟨w.heap.size, 0, none⟩))).heap[r]?) := ⟨s1, s2.1, s2.2.1, s2.2.2, s3, s4, e0, e1, s5⟩
  clear hW0 hsz s1 s2 s3 s4 s5 old h0 h1 h2 hf
  refine (top_o0 r o W0 e2).mono ?_
  rintro e w' ⟨rfl, n1, rfl⟩
  go_wp2
  obtain ⟨W, hW⟩ : ∃ W, W = W0.drewN n1 := ⟨_, rfl⟩
  rw [← hW]
  have hH : W.heap = W0.heap := by rw [hW]; rfl
  have hO : W.os = W0.os ∧ W.tape = W0.tape ∧ W.output = W0.output := by rw [hW]; exact ⟨rfl, rfl, rfl⟩
  have g1 : W.cell? ⟨r, o + 1, none⟩ = some (.pointer (some ⟨w.heap.size, 0, none⟩)) := by rw [hW]; exact e1
  have g2 : W.cell? ⟨r, o + 2, none⟩ = some (.int .i64 0) := by rw [hW]; exact e2
  have gM : W.cell? ⟨w.heap.size, 0, none⟩ = some (.slice none 0 0) := by rw [hW]; exact eM
  have gf : ∀ o, W.frozen? ⟨r, o, none⟩ = false := by rw [hW]; exact ef
  have gfM : W.frozen? ⟨w.heap.size, 0, none⟩ = false := by rw [hW]; exact efM
  have lr : r < W.heap.size := by rw [hH, HF.out.1]; omega
  have lM : w.heap.size < W.heap.size := by rw [hH, HF.out.1]; omega
  have HE : Hid (∃ v' w', (Builtin.append_ #[72, 72] 72 #[.slice none 0 0, .slice (some ⟨W.heap.size + 1, 0, none⟩) 1 1]).run Yba.prog ((W.alloc (.cells (chunkCells 16) 66)).alloc (.cells #[.slice (some ⟨W.heap.size, 0, none⟩) 0 16] 50)).drew = .ok v' w' ∧
      ∃ g cp, v' = .slice (some ⟨g, 0, none⟩) (0 + 1) cp ∧ App2 W w' W.heap.size 0 0 g cp 16 []) := app2nil W 16 1
  have HX : Hid (W.heap = W0.heap ∧ W.os = W0.os ∧ W.tape = W0.tape ∧ W.output = W0.output) := ⟨hH, hO⟩
  have HH : Hid (W.heap.size = W0.heap.size) := congrArg Array.size hH
  clear hW hH hO e0 e1 e2 ef eM efM hr
  go_region_law ((refine step_append_ex rfl _ _ 72 72 rfl _ _ rfl rfl HE.out ?_
                  rintro _ w1 ⟨g, cp, rfl, hA⟩
                  have f1 : w1.cell? ⟨r, o + 1, none⟩ = some (.pointer (some ⟨w.heap.size, 0, none⟩)) := (World.cell?_of_block (a := ⟨r, o + 1, none⟩) (hA.block r lr (by omega))).trans g1
                  have f2 : w1.cell? ⟨r, o + 2, none⟩ = some (.int .i64 0) := (World.cell?_of_block (a := ⟨r, o + 2, none⟩) (hA.block r lr (by omega))).trans g2
                  have f3 : w1.cell? ⟨w.heap.size, 0, none⟩ = some (.slice none 0 0) := (World.cell?_of_block (a := ⟨w.heap.size, 0, none⟩) (hA.block w.heap.size lM (by omega))).trans gM
                  have f4 : w1.frozen? ⟨w.heap.size, 0, none⟩ = false := (World.frozen?_of_block (a := ⟨w.heap.size, 0, none⟩) (hA.block w.heap.size lM (by omega))).trans gfM
                  have f5 : w1.frozen? ⟨r, o + 2, none⟩ = false := (World.frozen?_of_block (a := ⟨r, o + 2, none⟩) (hA.block r lr (by omega))).trans (gf _)))
  all_goals
    go_wp2
    go_quiet (fail)
    go_wp2
    go_ret
    exact ⟨W0, w1, g, cp, _, HF.out, HH.out ▸ hA.shift HX.out, rfl, rfl⟩

end Go.Proofs.Ybulkjwu
