/-
  The stack of open objects: topChunk, nextChunk, grow, push: by their contracts.
-/
import Derived.Test.YbulkjwuApp
import Derived.Deep.RegionLaw
import Derived.Deep.RegionWith
import Derived.Deep.RegionHeldLaw
namespace Go.Proofs.Ybulkjwu
open Go.RowKit
set_option linter.unusedSimpArgs false
set_option linter.unusedVariables false

theorem top_o0 (r o : Nat) (w : World) (hu : w.cell? ⟨r, o + 2, none⟩ = some (.int .i64 0)) :
    Calls Yba.prog 16 #[.pointer (some ⟨r, o, none⟩)] w fun e w' => e = .returned (.pointer (some ⟨r, o, none⟩)) ∧ ∃ n, w' = w.drewN n := by
  go_enter Yba.func16, Yba.ntmps16
  go_wp2
  go_ret
  exact ⟨rfl, 0, rfl⟩

theorem top_ou (r o M R u c : Nat) (w : World) (hu0 : 1 ≤ u) (hu3 : u ≤ 8) (hu : w.cell? ⟨r, o + 2, none⟩ = some (.int .i64 u)) (hm : w.cell? ⟨r, o + 1, none⟩ = some (.pointer (some ⟨M, 0, none⟩)))
    (hc : w.cell? ⟨M, 0, none⟩ = some (.slice (some ⟨R, 0, none⟩) u c)) :
    Calls Yba.prog 16 #[.pointer (some ⟨r, o, none⟩)] w fun e w' => e = .returned (.pointer (some ⟨R, u - 1, none⟩)) ∧ ∃ n, w' = w.drewN n := by
  go_enter Yba.func16, Yba.ntmps16
  go_wp2
  go_quiet (fail)
  go_wp2
  go_ret
  exact ⟨rfl, _, rfl⟩

set_option maxHeartbeats 400000 in
/-- grow, the top chunk has room. -/
theorem grow_room (r o Pb Po T t cap : Nat) (w : World) (htop : Calls Yba.prog 16 #[.pointer (some ⟨r, o, none⟩)] w fun e w' => e = .returned (.pointer (some ⟨Pb, Po, none⟩)) ∧ ∃ n, w' = w.drewN n)
    (hp : w.cell? ⟨Pb, Po, none⟩ = some (.slice (some ⟨T, 0, none⟩) t cap)) (ht : t < cap) (hcap : cap ≤ 1000) (hf : w.frozen? ⟨Pb, Po, none⟩ = false) :
    Calls Yba.prog 15 #[.pointer (some ⟨r, o, none⟩)] w fun e w' => e = .returned (.pointer (some ⟨T, t * 10, none⟩)) ∧ ∃ m, w' = (w.setCell ⟨Pb, Po, none⟩ (.slice (some ⟨T, 0, none⟩) (t + 1) cap)).drewN m := by
  have H := Hid.out (p := True) trivial
  go_enter Yba.func15, Yba.ntmps15
  go_wp2_with (go_at_call 16; refine htop.mono ?_; rintro e w' ⟨rfl, n1, rfl⟩)
  go_quiet (fail)
  go_wp2
  go_ret
  exact ⟨rfl, _, rfl⟩

set_option maxHeartbeats 400000 in
/-- grow, the top chunk full: whatever nextChunk hands back. -/
theorem grow_next (r o P0b P0o t0 : Nat) (x : Option Addr) (w : World) (Q : World → Nat → Nat → Nat → Nat → Prop)
    (htop : Calls Yba.prog 16 #[.pointer (some ⟨r, o, none⟩)] w fun e w' => e = .returned (.pointer (some ⟨P0b, P0o, none⟩)) ∧ ∃ n, w' = w.drewN n)
    (hp : w.cell? ⟨P0b, P0o, none⟩ = some (.slice x t0 t0)) (ht0 : t0 ≤ 1000)
    (hnext : ∀ k, Calls Yba.prog 17 #[.pointer (some ⟨r, o, none⟩)] (w.drewN k) fun e w1 => ∃ Pb Po T cap, e = .returned (.pointer (some ⟨Pb, Po, none⟩)) ∧ Q w1 Pb Po T cap)
    (hQ : ∀ w1 Pb Po T cap, Q w1 Pb Po T cap → w1.cell? ⟨Pb, Po, none⟩ = some (.slice (some ⟨T, 0, none⟩) 0 cap) ∧ 0 < cap ∧ cap ≤ 1000 ∧ w1.frozen? ⟨Pb, Po, none⟩ = false) :
    Calls Yba.prog 15 #[.pointer (some ⟨r, o, none⟩)] w fun e w' => ∃ w1 Pb Po T cap m, Q w1 Pb Po T cap ∧ e = .returned (.pointer (some ⟨T, 0, none⟩)) ∧
      w' = (w1.setCell ⟨Pb, Po, none⟩ (.slice (some ⟨T, 0, none⟩) 1 cap)).drewN m := by
  go_enter Yba.func15, Yba.ntmps15
  go_wp2_with (go_at_call 16; refine htop.mono ?_; rintro e w' ⟨rfl, n1, rfl⟩)
  go_quiet (fail)
  go_wp2_with fail
  refine (hnext _).mono ?_
  rintro e w1 ⟨Pb, Po, T, cap, rfl, q⟩
  obtain ⟨q1, q2, q3, q4⟩ := hQ w1 Pb Po T cap q
  clear hQ hnext htop hp
  have HQ : Hid (Q w1 Pb Po T cap) := q
  clear q
  go_wp2
  go_ret
  exact ⟨w1, Pb, Po, T, cap, 0, HQ.out, rfl, rfl⟩

/-- A chunk as make lays it. -/
def chunkCells (n : Nat) : Array Value := madeCells (Value.agg #[.pointer none, .string ⟨#[]⟩, .int .i64 0, .bool false, .bool false, .bool false, .bool false, .bool false, .bool false, .string ⟨#[]⟩]).cells (n * 10)
theorem chunkCells_size (n : Nat) : (chunkCells n).size = n * 10 := size_madeCells _ _
theorem info66 : (Yba.prog.info? 66).map (fun i => (i.zero, i.size, i.bytes)) = some (some (.agg #[.pointer none, .string ⟨#[]⟩, .int .i64 0, .bool false, .bool false, .bool false, .bool false, .bool false, .bool false, .string ⟨#[]⟩]), 10, 56) := by kernel_rfl
theorem info50 : (Yba.prog.info? 50).map (fun i => (i.zero, i.size, i.bytes)) = some (some (.slice none 0 0), 1, 24) := by kernel_rfl

theorem mk50 (n : Nat) (hn : n ≤ 1000) (W : World) : (Instr.makeSlice 50 (.int .i64 0) (.int .i64 (n : Int))).run Yba.prog W = .ok (.slice (some ⟨W.heap.size, 0, none⟩) 0 n) (W.alloc (.cells (chunkCells n) 66)) := by
  obtain ⟨i0, hi, hz0, hz1, hz2⟩ := info_parts info66
  have h := run_make (P := Yba.prog) W 50 66 i0 _ Yba.underlying50 hi hz0 .i64 .i64 0 n (Int.le_refl _) (by omega) (by rw [hz2]; omega) (by omega)
  simp only [Int.toNat_zero, Int.toNat_natCast, hz1] at h
  exact h

set_option maxHeartbeats 400000 in
/-- nextChunk of a stack with no room at all. -/
theorem next_A (r o : Nat) (w : World) (hr : r < w.heap.size) (h0 : w.cell? ⟨r, o, none⟩ = some (.slice none 0 0)) (hf : w.frozen? ⟨r, o, none⟩ = false) :
    Calls Yba.prog 17 #[.pointer (some ⟨r, o, none⟩)] w fun e w' => e = .returned (.pointer (some ⟨r, o, none⟩)) ∧ w' = (w.setCell ⟨r, o, none⟩ (.slice (some ⟨w.heap.size, 0, none⟩) 0 8)).alloc (.cells (chunkCells 8) 66) := by
  have hmk : ∀ W : World, (Instr.makeSlice 50 (.int .i64 0) (.int .i64 8)).run Yba.prog W = .ok (.slice (some ⟨W.heap.size, 0, none⟩) 0 8) (W.alloc (.cells (chunkCells 8) 66)) := fun W => mk50 8 (by omega) W
  go_enter Yba.func17, Yba.ntmps17
  go_wp2
  go_ret
  exact ⟨rfl, rfl⟩

/-- An append whose run is at hand, as one step of a region that draws its order. -/
theorem step_append_ex {P : Program} {ops : Array Oper} {o : Oper} {a : Act} {w : World} {K : Act → World → Prop} {Q : Exit → Act → World → Prop} {E : Prop} {R : Value → World → Prop}
    (hg : o.guard = none) (s x : Operand) (t u : TypeId) (hop : o.op = Op.call { callee := Callee.builtin Builtin.append, args := #[s, x], argTypes := #[t, u] }) (vs vx : Value) (hs : a.eval s = vs) (hx : a.eval x = vx)
    (hr : ∃ v' w', (Builtin.append_ #[t, u] o.type #[vs, vx]).run P w = .ok v' w' ∧ R v' w') (hK : ∀ v' w', R v' w' → K (a.put o.dst v') w') :
    if Region.wanted o (yielded ops a.tmps) = true then Oper.wp P o a w K Q else E := by
  have hw : Region.wanted o (yielded ops a.tmps) = true := by simp [Region.wanted, hg]
  rw [if_pos hw]
  obtain ⟨v', w', hrun, hR⟩ := hr
  unfold Oper.wp
  simp [execOp, hop, resolve, invoke, builtin, hs, hx, hrun, Result.andThen]
  exact hK _ _ hR

/-- What 'append(*s.more, make([]T, 0, size))' leaves. -/
structure App2 (w w1 : World) (R u c g cp n : Nat) (xs : List Value) : Prop where
  own : w1.ownsRow 0 50 1 (.slice (some ⟨g, 0, none⟩) (u + 1) cp) (u + 1) (xs ++ [.slice (some ⟨w.heap.size, 0, none⟩) 0 n])
  row : w1.heap[w.heap.size]? = some (.cells (chunkCells n) 66)
  block : ∀ k, k < w.heap.size → k ≠ R → w1.heap[k]? = w.heap[k]?
  lies : g = R ∨ w.heap.size ≤ g
  size : w.heap.size + 2 ≤ w1.heap.size
  os : w1.os = w.os
  tape : w1.tape = w.tape
  output : w1.output = w.output

theorem App2.shift {w W w1 : World} {R u c g cp n : Nat} {xs : List Value} (h : App2 W w1 R u c g cp n xs) (e : W.heap = w.heap ∧ W.os = w.os ∧ W.tape = w.tape ∧ W.output = w.output) : App2 w w1 R u c g cp n xs := by
  obtain ⟨e1, e2, e3, e4⟩ := e
  obtain ⟨a1, a2, a3, a4, a5, a6, a7, a8⟩ := h
  rw [e1] at a1 a2 a3 a4 a5
  exact ⟨a1, a2, a3, a4, a5, a6.trans e2, a7.trans e3, a8.trans e4⟩

theorem app2 (w : World) (R u c n k : Nat) (xs : List Value) (hown : w.ownsRow 0 50 1 (.slice (some ⟨R, 0, none⟩) u c) u xs) (hu : u ≤ 100) (hRl : R < w.heap.size) :
    ∃ v' w', (Builtin.append_ #[72, 72] 72 #[.slice (some ⟨R, 0, none⟩) u c, .slice (some ⟨w.heap.size + 1, 0, none⟩) 1 1]).run Yba.prog (((w.alloc (.cells (chunkCells n) 66)).alloc (.cells #[.slice (some ⟨w.heap.size, 0, none⟩) 0 n] 50)).drewN k) = .ok v' w' ∧
      ∃ g cp, v' = .slice (some ⟨g, 0, none⟩) (u + 1) cp ∧ App2 w w' R u c g cp n xs := by
  obtain ⟨i0, hi, hz0, hz1, hz2⟩ := info_parts info50
  have hW : (((w.alloc (.cells (chunkCells n) 66)).alloc (.cells #[.slice (some ⟨w.heap.size, 0, none⟩) 0 n] 50)).drewN k).ownsRow 0 50 1 (.slice (some ⟨R, 0, none⟩) u c) u xs := (hown.alloc _).alloc _
  have hsz : (((w.alloc (.cells (chunkCells n) 66)).alloc (.cells #[.slice (some ⟨w.heap.size, 0, none⟩) 0 n] 50)).drewN k).heap.size = w.heap.size + 2 := by
    show ((w.alloc (.cells (chunkCells n) 66)).alloc (.cells #[.slice (some ⟨w.heap.size, 0, none⟩) 0 n] 50)).heap.size = _
    simp
  have hold : ∀ j, j < w.heap.size → (((w.alloc (.cells (chunkCells n) 66)).alloc (.cells #[.slice (some ⟨w.heap.size, 0, none⟩) 0 n] 50)).drewN k).heap[j]? = w.heap[j]? := fun j hj => by
    show ((w.alloc (.cells (chunkCells n) 66)).alloc (.cells #[.slice (some ⟨w.heap.size, 0, none⟩) 0 n] 50)).heap[j]? = _
    rw [Below.heap_alloc _ _ _ (by simp; omega), Below.heap_alloc _ _ _ hj]
  have hT : (((w.alloc (.cells (chunkCells n) 66)).alloc (.cells #[.slice (some ⟨w.heap.size, 0, none⟩) 0 n] 50)).drewN k).heap[w.heap.size]? = some (.cells (chunkCells n) 66) := by
    show ((w.alloc (.cells (chunkCells n) 66)).alloc (.cells #[.slice (some ⟨w.heap.size, 0, none⟩) 0 n] 50)).heap[w.heap.size]? = _
    rw [Below.heap_alloc _ _ _ (by simp)]
    exact heap_alloc_new w _
  have hX : (((w.alloc (.cells (chunkCells n) 66)).alloc (.cells #[.slice (some ⟨w.heap.size, 0, none⟩) 0 n] 50)).drewN k).cell? ⟨w.heap.size + 1, 0, none⟩ = some (.slice (some ⟨w.heap.size, 0, none⟩) 0 n) := by
    have h2 : (((w.alloc (.cells (chunkCells n) 66)).alloc (.cells #[.slice (some ⟨w.heap.size, 0, none⟩) 0 n] 50)).drewN k).heap[w.heap.size + 1]? = some (.cells #[.slice (some ⟨w.heap.size, 0, none⟩) 0 n] 50) := by
      have := heap_alloc_new (w.alloc (.cells (chunkCells n) 66)) (.cells #[.slice (some ⟨w.heap.size, 0, none⟩) 0 n] 50)
      rw [World.size_alloc] at this
      exact this
    exact cell_of_row _ _ 0 _ 50 (0, 0) h2
  obtain ⟨v', w', hrun, hown', hgr, hsn, g, cp, hv, hcp⟩ := append1 _ 72 72 50 i0 (.slice none 0 0) 24 Yba.underlying72 hi hz0 hz1 hz2 rfl (by omega) (.slice (some ⟨R, 0, none⟩) u c) u xs hW ⟨w.heap.size + 1, 0, none⟩ _ 1 hX rfl rfl (by omega)
  subst hv
  refine ⟨_, w', hrun, g, cp, rfl, ⟨hown', ?_, ?_, ?_, ?_, hgr.os, hgr.tape, hgr.output⟩⟩
  · rw [hgr.block _ (by rw [hsz]; omega) (by simp [Value.ownBlock]; omega)]
    exact hT
  · intro j hj hne
    rw [hgr.block _ (by rw [hsz]; omega) (by simp [Value.ownBlock]; omega)]
    exact hold j hj
  · rcases hsn with h | ⟨g', h, hge⟩
    · simp [Value.ownBlock] at h
      exact .inl h
    · simp [Value.ownBlock] at h
      rw [hsz] at hge
      exact .inr (by omega)
  · have := hgr.size
    rw [hsz] at this
    exact this

/-- The same onto nil. -/
theorem app2nil (w : World) (n : Nat) (k : Nat) :
    ∃ v' w', (Builtin.append_ #[72, 72] 72 #[.slice none 0 0, .slice (some ⟨w.heap.size + 1, 0, none⟩) 1 1]).run Yba.prog (((w.alloc (.cells (chunkCells n) 66)).alloc (.cells #[.slice (some ⟨w.heap.size, 0, none⟩) 0 n] 50)).drewN k) = .ok v' w' ∧
      ∃ g cp, v' = .slice (some ⟨g, 0, none⟩) (0 + 1) cp ∧ App2 w w' w.heap.size 0 0 g cp n [] := by
  obtain ⟨i0, hi, hz0, hz1, hz2⟩ := info_parts info50
  have hsz : (((w.alloc (.cells (chunkCells n) 66)).alloc (.cells #[.slice (some ⟨w.heap.size, 0, none⟩) 0 n] 50)).drewN k).heap.size = w.heap.size + 2 := by
    show ((w.alloc (.cells (chunkCells n) 66)).alloc (.cells #[.slice (some ⟨w.heap.size, 0, none⟩) 0 n] 50)).heap.size = _
    simp
  have hold : ∀ j, j < w.heap.size → (((w.alloc (.cells (chunkCells n) 66)).alloc (.cells #[.slice (some ⟨w.heap.size, 0, none⟩) 0 n] 50)).drewN k).heap[j]? = w.heap[j]? := fun j hj => by
    show ((w.alloc (.cells (chunkCells n) 66)).alloc (.cells #[.slice (some ⟨w.heap.size, 0, none⟩) 0 n] 50)).heap[j]? = _
    rw [Below.heap_alloc _ _ _ (by simp; omega), Below.heap_alloc _ _ _ hj]
  have hT : (((w.alloc (.cells (chunkCells n) 66)).alloc (.cells #[.slice (some ⟨w.heap.size, 0, none⟩) 0 n] 50)).drewN k).heap[w.heap.size]? = some (.cells (chunkCells n) 66) := by
    show ((w.alloc (.cells (chunkCells n) 66)).alloc (.cells #[.slice (some ⟨w.heap.size, 0, none⟩) 0 n] 50)).heap[w.heap.size]? = _
    rw [Below.heap_alloc _ _ _ (by simp)]
    exact heap_alloc_new w _
  have hX : (((w.alloc (.cells (chunkCells n) 66)).alloc (.cells #[.slice (some ⟨w.heap.size, 0, none⟩) 0 n] 50)).drewN k).cell? ⟨w.heap.size + 1, 0, none⟩ = some (.slice (some ⟨w.heap.size, 0, none⟩) 0 n) := by
    have h2 : (((w.alloc (.cells (chunkCells n) 66)).alloc (.cells #[.slice (some ⟨w.heap.size, 0, none⟩) 0 n] 50)).drewN k).heap[w.heap.size + 1]? = some (.cells #[.slice (some ⟨w.heap.size, 0, none⟩) 0 n] 50) := by
      have := heap_alloc_new (w.alloc (.cells (chunkCells n) 66)) (.cells #[.slice (some ⟨w.heap.size, 0, none⟩) 0 n] 50)
      rw [World.size_alloc] at this
      exact this
    exact cell_of_row _ _ 0 _ 50 (0, 0) h2
  obtain ⟨v', w', hrun, hown', hgr, hsn, g, cp, hv, hcp⟩ := append1 _ 72 72 50 i0 (.slice none 0 0) 24 Yba.underlying72 hi hz0 hz1 hz2 rfl (by omega) (.slice none 0 0) 0 [] (World.ownsRow_nil _ 0 50 1) ⟨w.heap.size + 1, 0, none⟩ _ 1 hX rfl rfl (by omega)
  subst hv
  refine ⟨_, w', hrun, g, cp, rfl, ⟨hown', ?_, ?_, ?_, ?_, hgr.os, hgr.tape, hgr.output⟩⟩
  · rw [hgr.block _ (by rw [hsz]; omega) (by simp [Value.ownBlock])]
    exact hT
  · intro j hj hne
    rw [hgr.block _ (by rw [hsz]; omega) (by simp [Value.ownBlock])]
    exact hold j hj
  · rcases hsn with h | ⟨g', h, hge⟩
    · simp [Value.ownBlock] at h
    · simp [Value.ownBlock] at h
      rw [hsz] at hge
      exact .inr (by omega)
  · have := hgr.size
    rw [hsz] at this
    exact this

end Go.Proofs.Ybulkjwu
