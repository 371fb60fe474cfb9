/-
  (*Indexed[int]).Clear; NewIndexed[int].
-/
import Derived.Test.YbulkjxiTab2
namespace Go.Proofs.Ybulkjxi
open Go.RowKit Go.Maps
set_option linter.unusedSimpArgs false
set_option linter.unusedVariables false

theorem clear_map {w : World} {R : Value → Option (DataW Unit × List MemPlace)} {b n : Nat} {D : DataW Unit} (h : w.ownsMap Yba.prog 9 R b n D) :
    ∃ w1, (∀ ty, (Builtin.clear_ #[38] ty #[.map (some b)]).run Yba.prog w = .ok (.tuple #[]) w1) ∧ w1.ownsMap Yba.prog 9 R b 0 (.map []) ∧ w.mapTurned w1 b := by
  obtain ⟨es, clock, hb, F, _, _⟩ := h
  refine ⟨ChangeMaps.setBlock w b (.map #[] clock), fun ty => ?_, ⟨#[], clock, ChangeMaps.heap_setBlock_same hb _, ⟨by simp, MapKept.stamped_empty clock, by simp⟩, Nat.le_refl _, rfl⟩, ⟨es, clock, #[], clock, hb, rfl⟩⟩
  simp [Builtin.clear_, run_underlying Yba.underlying38, MapKept.run_getObj_map hb, MapKept.run_setObj_map _ hb, Result.andThen]
  rfl

set_option maxHeartbeats 400000 in
theorem iclear_any {w : World} {p s : Nat} {S : List Nat} (h : Tab w p s S) :
    Calls Yba.prog 10 #[.pointer (some ⟨p, 0, none⟩)] w fun e w' => e = .returned (.tuple #[]) ∧ ∃ S', Tab w' p 0 S' ∧ Fr w w' S S' := by
  obtain ⟨m, rv, n, T, D, h⟩ := h
  have hsm := h.small
  have hle := h.le
  have p0 : w.cell? ⟨p, 0, none⟩ = some (.map (some m)) := cell_of_row _ _ 0 _ 45 (0, 0) h.own
  obtain ⟨w1, hrun, hown1, hturn⟩ := clear_map h.vals
  have hg := hturn.grown
  have hp := h.lt p h.pS
  have own1 : w1.heap[p]? = some (.cells #[.map (some m), rv] 45) := (hg.block p hp (fun e => h.pm (by injection e))).trans h.own
  have root1 : Root w1 rv n T := h.root.blocks (fun k hk' => hg.block k (h.root.1 k hk') (fun e => h.mT (by injection e with e; rw [← e]; exact hk'))) hg.size
  have f1 : Fr w w1 S S := ⟨fun k hk' hn => hg.block k hk' (fun e => hn (by injection e with e; rw [e]; exact h.mS)), fun k hk' => .inl hk', hg.size, hg.os, hg.tape, hg.output⟩
  have p0' : w1.cell? ⟨p, 0, none⟩ = some (.map (some m)) := cell_of_row _ _ 0 _ 45 (0, 0) own1
  have HC : Hid (Calls Yba.prog 12 #[.pointer (some ⟨p, 1, none⟩)] w1 fun e w' => e = .returned (.tuple #[]) ∧ ∃ S', Tab w' p 0 S' ∧ Fr w w' S S') := by
    refine (sclear_any own1 root1 h.pT (by omega)).mono ?_
    rintro e w' ⟨rfl, k⟩
    refine ⟨rfl, ?_⟩
    have hml := h.lt m h.mS
    have t : TabAt w' p 0 S m rv 0 T (.map []) := ⟨k.own, ownsMap_heap hown1 (k.block m (by have := hg.size; omega) (fun e => h.pm e.symm) h.mT), rfl, fun kl hh => (by simp [Maps.has] at hh), k.root, Nat.le_refl _, h.pS, h.mS, h.TS, h.pm, h.pT, h.mT, fun j hj => by have := h.lt j hj; have := hg.size; have := k.size; omega⟩
    exact ⟨S, ⟨m, rv, 0, T, _, t⟩, f1.trans ⟨fun j hj hjn => k.block j hj (fun e => hjn (by rw [e]; exact h.pS)) (fun e => hjn (h.TS j e)), fun j hj => .inl hj, k.size, k.os, k.tape, k.output⟩⟩
  clear h hturn hg hown1 own1 root1 f1
  go_enter Yba.func10, Yba.ntmps10
  go_wp2_with (first
    | (simp only [hrun])
    | (go_at_call 12; refine HC.out.mono ?_; rintro e w' ⟨rfl, hfin⟩))
  go_end0
  exact ⟨rfl, hfin⟩

/-- The world behind NewIndexed. -/
def newW (w : World) : World := (w.alloc (.map #[] 0)).alloc (.cells #[.map (some w.heap.size), .pointer none] 45)

theorem new_any (w : World) : Calls Yba.prog 8 #[] w fun e w' => e = .returned (.pointer (some ⟨w.heap.size + 1, 0, none⟩)) ∧ w' = newW w := by
  have hmm := @run_makeMap Yba.prog
  go_enter Yba.func8, Yba.ntmps8
  go_wp2
  go_ret
  exact ⟨rfl, rfl⟩

theorem new_tab (w : World) : Tab (newW w) (w.heap.size + 1) 0 [w.heap.size + 1, w.heap.size] ∧ (∀ k, k < w.heap.size → (newW w).heap[k]? = w.heap[k]?) ∧ (newW w).heap.size = w.heap.size + 2 := by
  have e1 : (w.alloc (.map #[] 0)).heap.size = w.heap.size + 1 := by simp
  have hsz : (newW w).heap.size = w.heap.size + 2 := by unfold newW; simp
  have h1 : (newW w).heap[w.heap.size + 1]? = some (.cells #[.map (some w.heap.size), .pointer none] 45) := by
    have := heap_alloc_new (w.alloc (.map #[] 0)) (.cells #[.map (some w.heap.size), .pointer none] 45)
    rwa [e1] at this
  refine ⟨⟨w.heap.size, .pointer none, 0, [], .map [], h1, (World.ownsMap_made w Yba.prog 9 (plainElem Yba.prog 3)).alloc _, rfl, fun kl hh => (by simp [Maps.has] at hh), ⟨fun k hk => (by cases hk), .inl ⟨rfl, rfl⟩⟩, Nat.le_refl _, by simp, by simp, fun k hk => (by cases hk), by omega, by simp, by simp, fun k hk => ?_⟩, fun k hk => ?_, hsz⟩
  · rw [hsz]
    simp at hk
    omega
  · unfold newW
    rw [Below.heap_alloc _ _ _ (by simp; omega), Below.heap_alloc _ _ _ hk]

end Go.Proofs.Ybulkjxi
