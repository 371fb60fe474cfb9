/-
  nextChunk, the list of further chunks at hand, all full.
-/
import Derived.Test.YbulkjwuStk
namespace Go.Proofs.Ybulkjwu
open Go.RowKit
set_option linter.unusedSimpArgs false
set_option linter.unusedVariables false

set_option maxHeartbeats 2000000 in
/-- nextChunk where all chunks are full, the list of the others at hand. -/
theorem next_E (r o M R u c cap : Nat) (x : Option Addr) (tc : Nat) (xs : List Value) (w : World) (hr : r < w.heap.size) (hRl : R < w.heap.size) (hMl : M < w.heap.size) (hu1 : 1 ≤ u) (hu8 : u ≤ 8) (hcap : 1 ≤ cap) (hcap1 : cap ≤ 400)
    (hrM : r ≠ M) (hRr : R ≠ r) (hRM : R ≠ M) (fx : Option Addr) (fn fc : Nat) (hfc : 1 ≤ fc) (h0 : w.cell? ⟨r, o, none⟩ = some (.slice fx fn fc))
    (h1 : w.cell? ⟨r, o + 1, none⟩ = some (.pointer (some ⟨M, 0, none⟩))) (h2 : w.cell? ⟨r, o + 2, none⟩ = some (.int .i64 u)) (hM : w.cell? ⟨M, 0, none⟩ = some (.slice (some ⟨R, 0, none⟩) u c))
    (hown : w.ownsRow 0 50 1 (.slice (some ⟨R, 0, none⟩) u c) u xs)
    (hR : w.cell? ⟨R, u - 1, none⟩ = some (.slice x tc cap)) (hf : ∀ o, w.frozen? ⟨r, o, none⟩ = false) (hfM : w.frozen? ⟨M, 0, none⟩ = false) :
    Calls Yba.prog 17 #[.pointer (some ⟨r, o, none⟩)] w fun e w' => ∃ w1 g cp m, App2 w w1 R u c g cp (2 * cap) xs ∧ e = .returned (.pointer (some ⟨g, u, none⟩)) ∧
      w' = ((w1.setCell ⟨M, 0, none⟩ (.slice (some ⟨g, 0, none⟩) (u + 1) cp)).setCell ⟨r, o + 2, none⟩ (.int .i64 (u + 1))).drewN m := by
  have hmk : ∀ W : World, (Instr.makeSlice 50 (.int .i64 0) (.int .i64 (2 * (cap : Int)))).run Yba.prog W = .ok (.slice (some ⟨W.heap.size, 0, none⟩) 0 (2 * cap)) (W.alloc (.cells (chunkCells (2 * cap)) 66)) := fun W => by
    have := mk50 (2 * cap) (by omega) W
    simpa using this
  go_enter Yba.func17, Yba.ntmps17
  go_wp2_with fail
  go_quiet (fail)
  go_wp2_with (first | (go_at_call 16; refine (top_ou r o M R u c _ hu1 (by omega) (by exact h2) (by exact h1) (by exact hM)).mono ?_; rintro e w' ⟨rfl, n1, rfl⟩))
  obtain ⟨W, hW⟩ : ∃ W, W = w.drewN (nq + n1) := ⟨_, rfl⟩
  rw [← hW]
  have hH : W.heap = w.heap := by rw [hW]; rfl
  have hO : W.os = w.os ∧ W.tape = w.tape ∧ W.output = w.output := by rw [hW]; exact ⟨rfl, rfl, rfl⟩
  have g1 : W.cell? ⟨r, o + 1, none⟩ = some (.pointer (some ⟨M, 0, none⟩)) := by rw [hW]; exact h1
  have g2 : W.cell? ⟨r, o + 2, none⟩ = some (.int .i64 u) := by rw [hW]; exact h2
  have gM : W.cell? ⟨M, 0, none⟩ = some (.slice (some ⟨R, 0, none⟩) u c) := by rw [hW]; exact hM
  have gf : ∀ o, W.frozen? ⟨r, o, none⟩ = false := by rw [hW]; exact hf
  have gfM : W.frozen? ⟨M, 0, none⟩ = false := by rw [hW]; exact hfM
  have gown : W.ownsRow 0 50 1 (.slice (some ⟨R, 0, none⟩) u c) u xs := by rw [hW]; exact hown
  have lr : r < W.heap.size := by rw [hH]; exact hr
  have lR : R < W.heap.size := by rw [hH]; exact hRl
  have lM : M < W.heap.size := by rw [hH]; exact hMl
  have HE : Hid (∃ v' w', (Builtin.append_ #[72, 72] 72 #[.slice (some ⟨R, 0, none⟩) u c, .slice (some ⟨W.heap.size + 1, 0, none⟩) 1 1]).run Yba.prog ((W.alloc (.cells (chunkCells (2 * cap)) 66)).alloc (.cells #[.slice (some ⟨W.heap.size, 0, none⟩) 0 (2 * cap)] 50)).drew = .ok v' w' ∧
      ∃ g cp, v' = .slice (some ⟨g, 0, none⟩) (u + 1) cp ∧ App2 W w' R u c g cp (2 * cap) xs) := app2 W R u c (2 * cap) 1 xs gown (by omega) lR
  have HX : Hid (W.heap = w.heap ∧ W.os = w.os ∧ W.tape = w.tape ∧ W.output = w.output) := ⟨hH, hO⟩
  clear hW hH hO h0 h1 h2 hM hR hf hfM hown gown hr hRl hMl
  go_region_law ((refine step_append_ex rfl _ _ 72 72 rfl _ _ rfl rfl HE.out ?_
                  rintro _ w1 ⟨g, cp, rfl, hA⟩
                  have f1 : w1.cell? ⟨r, o + 1, none⟩ = some (.pointer (some ⟨M, 0, none⟩)) := (World.cell?_of_block (a := ⟨r, o + 1, none⟩) (hA.block r lr (fun e => hRr e.symm))).trans g1
                  have f2 : w1.cell? ⟨r, o + 2, none⟩ = some (.int .i64 u) := (World.cell?_of_block (a := ⟨r, o + 2, none⟩) (hA.block r lr (fun e => hRr e.symm))).trans g2
                  have f3 : w1.cell? ⟨M, 0, none⟩ = some (.slice (some ⟨R, 0, none⟩) u c) := (World.cell?_of_block (a := ⟨M, 0, none⟩) (hA.block M lM (fun e => hRM e.symm))).trans gM
                  have f4 : w1.frozen? ⟨M, 0, none⟩ = false := (World.frozen?_of_block (a := ⟨M, 0, none⟩) (hA.block M lM (fun e => hRM e.symm))).trans gfM
                  have f5 : w1.frozen? ⟨r, o + 2, none⟩ = false := (World.frozen?_of_block (a := ⟨r, o + 2, none⟩) (hA.block r lr (fun e => hRr e.symm))).trans (gf _)))
  all_goals
    go_wp2
    go_quiet (fail)
    go_wp2
    go_ret
    exact ⟨w1, g, cp, _, hA.shift HX.out, rfl, rfl⟩

end Go.Proofs.Ybulkjwu
