/-
  (*stack[bool]).topChunk, pop: by their contracts.
-/
import Derived.Test.YbulkjwuBase
namespace Go.Proofs.Ybulkjwu
open Go.RowKit
set_option linter.unusedSimpArgs false
set_option linter.unusedVariables false

theorem top_first (S o : Nat) (w : World) (hu : w.cell? ⟨S, o + 2, none⟩ = some (.int .i64 0)) :
    Calls Yba.prog 14 #[.pointer (some ⟨S, o, none⟩)] w fun e w' => e = .returned (.pointer (some ⟨S, o, none⟩)) ∧ ∃ n, w' = w.drewN n := by
  go_enter Yba.func14, Yba.ntmps14
  go_wp2
  go_ret
  exact ⟨rfl, 0, rfl⟩

theorem top_more (S o C R : Nat) (w : World) (hu : w.cell? ⟨S, o + 2, none⟩ = some (.int .i64 1)) (hm : w.cell? ⟨S, o + 1, none⟩ = some (.pointer (some ⟨C, 0, none⟩)))
    (hc : w.cell? ⟨C, 0, none⟩ = some (.slice (some ⟨R, 0, none⟩) 1 1)) :
    Calls Yba.prog 14 #[.pointer (some ⟨S, o, none⟩)] w fun e w' => e = .returned (.pointer (some ⟨R, 0, none⟩)) ∧ ∃ n, w' = w.drewN n := by
  go_enter Yba.func14, Yba.ntmps14
  go_wp2
  go_quiet (fail)
  go_wp2
  go_ret
  exact ⟨rfl, _, rfl⟩

set_option maxHeartbeats 400000 in
/-- pop, the extra chunk in use, of which more than one is left. -/
theorem pop_more (S o C R n c : Nat) (x : Option Addr) (w : World) (hn : 2 ≤ n) (hn1 : n ≤ 2000) (hnc : n ≤ c) (hu : w.cell? ⟨S, o + 2, none⟩ = some (.int .i64 1)) (hm : w.cell? ⟨S, o + 1, none⟩ = some (.pointer (some ⟨C, 0, none⟩)))
    (hc : w.cell? ⟨C, 0, none⟩ = some (.slice (some ⟨R, 0, none⟩) 1 1)) (hr : w.cell? ⟨R, 0, none⟩ = some (.slice x n c)) (hf : w.frozen? ⟨R, 0, none⟩ = false) :
    Calls Yba.prog 12 #[.pointer (some ⟨S, o, none⟩)] w fun e w' => e = .returned (.tuple #[]) ∧ ∃ m, w' = (w.setCell ⟨R, 0, none⟩ (.slice x (n - 1) c)).drewN m := by
  go_enter Yba.func12, Yba.ntmps12
  go_wp2_with (go_at_call 14; refine (top_more S o C R _ hu hm hc).mono ?_; rintro e w' ⟨rfl, n1, rfl⟩)
  go_region
  go_wp2
  go_end0
  exact ⟨rfl, _, rfl⟩

set_option maxHeartbeats 400000 in
/-- pop, the extra chunk in use, its last value. -/
theorem pop_last (S o C R c : Nat) (x : Option Addr) (w : World) (hRS : R ≠ S) (hnc : 1 ≤ c) (hu : w.cell? ⟨S, o + 2, none⟩ = some (.int .i64 1)) (hm : w.cell? ⟨S, o + 1, none⟩ = some (.pointer (some ⟨C, 0, none⟩)))
    (hc : w.cell? ⟨C, 0, none⟩ = some (.slice (some ⟨R, 0, none⟩) 1 1)) (hr : w.cell? ⟨R, 0, none⟩ = some (.slice x 1 c)) (hf : w.frozen? ⟨R, 0, none⟩ = false) (hfs : w.frozen? ⟨S, o + 2, none⟩ = false) :
    Calls Yba.prog 12 #[.pointer (some ⟨S, o, none⟩)] w fun e w' => e = .returned (.tuple #[]) ∧ ∃ m, w' = ((w.setCell ⟨R, 0, none⟩ (.slice x 0 c)).setCell ⟨S, o + 2, none⟩ (.int .i64 0)).drewN m := by
  have hSR : S ≠ R := fun h => hRS h.symm
  go_enter Yba.func12, Yba.ntmps12
  go_wp2_with (go_at_call 14; refine (top_more S o C R _ hu hm hc).mono ?_; rintro e w' ⟨rfl, n1, rfl⟩)
  go_region
  go_wp2
  go_end0
  exact ⟨rfl, _, rfl⟩

set_option maxHeartbeats 400000 in
/-- pop, no extra chunk in use. -/
theorem pop_first (S o n c : Nat) (x : Option Addr) (w : World) (hn : 1 ≤ n) (hn1 : n ≤ 2000) (hnc : n ≤ c) (hu : w.cell? ⟨S, o + 2, none⟩ = some (.int .i64 0))
    (hr : w.cell? ⟨S, o, none⟩ = some (.slice x n c)) (hf : w.frozen? ⟨S, o, none⟩ = false) :
    Calls Yba.prog 12 #[.pointer (some ⟨S, o, none⟩)] w fun e w' => e = .returned (.tuple #[]) ∧ ∃ m, w' = (w.setCell ⟨S, o, none⟩ (.slice x (n - 1) c)).drewN m := by
  have hd : n = 1 ∨ 2 ≤ n := by omega
  rcases hd with rfl | h2
  · go_enter Yba.func12, Yba.ntmps12
    go_wp2_with (go_at_call 14; refine (top_first S o _ hu).mono ?_; rintro e w' ⟨rfl, n1, rfl⟩)
    go_region
    go_wp2
    go_end0
    exact ⟨rfl, _, rfl⟩
  · go_enter Yba.func12, Yba.ntmps12
    go_wp2_with (go_at_call 14; refine (top_first S o _ hu).mono ?_; rintro e w' ⟨rfl, n1, rfl⟩)
    go_region
    go_wp2
    go_end0
    exact ⟨rfl, _, rfl⟩

end Go.Proofs.Ybulkjwu
