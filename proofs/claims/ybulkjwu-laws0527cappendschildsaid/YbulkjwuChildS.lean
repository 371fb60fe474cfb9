/-
  openChild of an object whose open array is the scopes.
-/
import Derived.Test.YbulkjwuChild
namespace Go.Proofs.Ybulkjwu
open Go.RowKit
set_option linter.unusedSimpArgs false
set_option linter.unusedVariables false

set_option maxHeartbeats 2000000 in
theorem child_S {w : World} {r n : Nat} {S : List Nat} {T t : Nat} (hS : Stk w r n n S T t) (h60 : n < 60) (C O : Nat) (nm : ByteArray) (a : Option Addr) (m c : Nat) (vT : Value) (xs : List Value)
    (hO : w.heap[O]? = some (.cells (oCells C ⟨#[115, 99, 111, 112, 101, 115]⟩) 66)) (hC : w.heap[C]? = some (.cells (contCells nm 0 (.slice a m c) vT) 48)) (hown : w.ownsRow 0 42 1 (.slice a m c) m xs) (hm : m ≤ 1000)
    (hOS : O ∉ S) (hCS : C ∉ S) (hvS : ∀ k ∈ S, (Value.slice a m c).ownBlock ≠ some k) :
    Calls Yba.prog 10 #[.pointer (some ⟨r, 0, none⟩), .pointer (some ⟨O, 0, none⟩)] w fun e w' => e = .returned (.tuple #[]) ∧
      ∃ child v' S' T' t', BornAt w r n S C (fun v' => contCells nm 0 v' vT) (.slice a m c) m xs ⟨#[115, 99, 111, 112, 101, 115]⟩ w' child v' S' T' t' := by
  have hlt := hS.2.1
  have hCl := (Array.getElem?_eq_some_iff.1 hC).1
  have hOl := (Array.getElem?_eq_some_iff.1 hO).1
  have hvl : ∀ g, (Value.slice a m c).ownBlock = some g → g < w.heap.size ∧ ∃ cur, w.heap[g]? = some (.cells cur 42) := by
    intro g hg
    rcases hown.2 with ⟨h, _⟩ | ⟨q, c, cur, h, _, hq, _⟩
    · rw [h] at hg; cases hg
    · rw [h] at hg; cases hg
      exact ⟨(Array.getElem?_eq_some_iff.1 hq).1, cur, hq⟩
  have hvC : (Value.slice a m c).ownBlock ≠ some C := fun e => by
    obtain ⟨_, cur, h⟩ := hvl C e
    rw [hC] at h
    simp at h
  have hvO : (Value.slice a m c).ownBlock ≠ some O := fun e => by
    obtain ⟨_, cur, h⟩ := hvl O e
    rw [hO] at h
    simp at h
  have hOC : O ≠ C := fun e => by
    rw [e, hC] at hO
    simp at hO
  have o0 : w.cell? ⟨O, 0, none⟩ = some (.pointer (some ⟨C, 0, none⟩)) := cell_of_row _ _ 0 _ 66 (0, 0) hO
  have o9 : w.cell? ⟨O, 9, none⟩ = some (.string ⟨#[115, 99, 111, 112, 101, 115]⟩) := cell_of_row _ _ 9 _ 66 (0, 0) hO
  have c7 : w.cell? ⟨C, 7, none⟩ = some (.slice a m c) := cell_of_row _ _ 7 _ 48 (0, 0) hC
  have f7 : w.frozen? ⟨C, 7, none⟩ = false := frozen_of_row _ _ 7 _ 48 hC
  have HO : Hid (w.heap[O]? = some (.cells (oCells C ⟨#[115, 99, 111, 112, 101, 115]⟩) 66)) := hO
  have HC : Hid (w.heap[C]? = some (.cells (contCells nm 0 (.slice a m c) vT) 48)) := hC
  have HS : Hid (Stk w r n n S T t) := hS
  have HW : Hid (w.ownsRow 0 42 1 (.slice a m c) m xs) := hown
  clear hO hC hown
  go_enter Yba.func10, Yba.ntmps10
  go_wp2_with fail
  obtain ⟨W, hW⟩ : ∃ W, W = (w.alloc (.cells (contCells ⟨#[]⟩ 0 (.slice none 0 0) (.slice none 0 0)) 48)).alloc (.cells #[.string ⟨#[115, 99, 111, 112, 101, 115]⟩, .int .i64 m] 63) := ⟨_, rfl⟩
  have hWu := hW
  unfold contCells at hWu
  rw [← hWu]
  have hsz : W.heap.size = w.heap.size + 2 := by rw [hW]; simp
  have hold : ∀ k, k < w.heap.size → W.heap[k]? = w.heap[k]? := fun k hk => by rw [hW, Below.heap_alloc _ _ _ (by simp; omega), Below.heap_alloc _ _ _ hk]
  have g0 : W.cell? ⟨O, 0, none⟩ = some (.pointer (some ⟨C, 0, none⟩)) := (World.cell?_of_block (a := ⟨O, 0, none⟩) (hold O hOl)).trans o0
  have g7 : W.cell? ⟨C, 7, none⟩ = some (.slice a m c) := (World.cell?_of_block (a := ⟨C, 7, none⟩) (hold C hCl)).trans c7
  have gf7 : W.frozen? ⟨C, 7, none⟩ = false := (World.frozen?_of_block (a := ⟨C, 7, none⟩) (hold C hCl)).trans f7
  have lO : O < W.heap.size := by omega
  have lC : C < W.heap.size := by omega
  have HE : Hid (∃ v' w', (Builtin.append_ #[46, 46] 46 #[.slice a m c, .slice (some ⟨W.heap.size, 0, none⟩) 1 1]).run Yba.prog (W.alloc (.cells #[.pointer (some ⟨w.heap.size, 0, none⟩)] 42)).drew = .ok v' w' ∧
      ∃ g cp, v' = .slice (some ⟨g, 0, none⟩) (m + 1) cp ∧ m + 1 ≤ cp ∧ App1 W w' (.slice a m c) v' m xs (.pointer (some ⟨w.heap.size, 0, none⟩))) :=
    app42 W (.slice a m c) m 1 xs (.pointer (some ⟨w.heap.size, 0, none⟩)) (ownsRow_heap HW.out (fun g hg => hold g (hvl g hg).1)) (by omega) rfl
  have q0 : W.cell? ⟨w.heap.size + 1, 0, none⟩ = some (.string ⟨#[115, 99, 111, 112, 101, 115]⟩) ∧ W.cell? ⟨w.heap.size + 1, 1, none⟩ = some (.int .i64 m) := by
    have hat : W.heap[w.heap.size + 1]? = some (.cells #[.string ⟨#[115, 99, 111, 112, 101, 115]⟩, .int .i64 m] 63) := by
      rw [hW]
      have := heap_alloc_new (w.alloc (.cells (contCells ⟨#[]⟩ 0 (.slice none 0 0) (.slice none 0 0)) 48)) (.cells #[.string ⟨#[115, 99, 111, 112, 101, 115]⟩, .int .i64 m] 63)
      rwa [World.size_alloc] at this
    exact ⟨cell_of_row _ _ 0 _ 63 (0, 0) hat, cell_of_row _ _ 1 _ 63 (0, 0) hat⟩
  obtain ⟨q0, q1⟩ := q0
  have hvA : (Value.slice a m c).ownBlock ≠ some (w.heap.size + 1) := fun e => by have := (hvl _ e).1; omega
  have lA : w.heap.size + 1 < W.heap.size := by omega
  have hAC : w.heap.size + 1 ≠ C := by omega
  have hp : Hid (∀ w1 g cp, App1 W w1 (.slice a m c) (.slice (some ⟨g, 0, none⟩) (m + 1) cp) m xs (.pointer (some ⟨w.heap.size, 0, none⟩)) →
      Calls Yba.prog 9 #[.pointer (some ⟨r, 0, none⟩), .agg (objCells (some ⟨w.heap.size, 0, none⟩) ⟨#[115, 99, 111, 112, 101, 115]⟩ m)] (w1.setCell ⟨C, 7, none⟩ (.slice (some ⟨g, 0, none⟩) (m + 1) cp)) fun e w' => e = .returned (.tuple #[]) ∧
        ∃ child v' S' T' t', BornAt w r n S C (fun v' => contCells nm 0 v' vT) (.slice a m c) m xs ⟨#[115, 99, 111, 112, 101, 115]⟩ w' child v' S' T' t') := fun w1 g cp hA => by
    obtain ⟨b1, b2, b3, b4, b5, b6, b7, b8⟩ := ahead_of (i := 7) HC.out (cs' := contCells nm 0 (.slice (some ⟨g, 0, none⟩) (m + 1) cp) vT) rfl hvC (fun g hg => (hvl g hg).1) hW hA
    refine (rpush (HS.out.blocks (fun k hk => b1 k (hlt k hk) (fun e => hCS (by rw [← e]; exact hk)) (hvS k hk)) (by omega)) h60 _ _ _).mono ?_
    rintro e w' ⟨rfl, hP⟩
    obtain ⟨S', T', t', h⟩ := born_of (mk := fun v' => contCells nm 0 v' vT) hlt hCl hCS hvS b1 b2 b3 b4 b5 b6 b7 hP
    exact ⟨rfl, _, _, S', T', t', h⟩
  unfold objCells at hp
  have N1 : Hid ((Value.slice a m c).ownBlock ≠ some O) := hvO
  have N2 : Hid ((Value.slice a m c).ownBlock ≠ some C) := hvC
  have N3 : Hid ((Value.slice a m c).ownBlock ≠ some (w.heap.size + 1)) := hvA
  clear hsz hW hWu hold hvl HO HC HS HW hS hvS hlt hvO hvC hvA o0 o9 c7 f7 hOS hCS
  go_region_law ((refine step_append_ex rfl _ _ 46 46 rfl _ _ rfl rfl HE.out ?_
                  rintro _ w1 ⟨g, cp, rfl, hcp, hA⟩
                  have p0 : w1.cell? ⟨O, 0, none⟩ = some (.pointer (some ⟨C, 0, none⟩)) := (World.cell?_of_block (a := ⟨O, 0, none⟩) (hA.block O lO N1.out)).trans g0
                  have p7 : w1.cell? ⟨C, 7, none⟩ = some (.slice a m c) := (World.cell?_of_block (a := ⟨C, 7, none⟩) (hA.block C lC N2.out)).trans g7
                  have pf : w1.frozen? ⟨C, 7, none⟩ = false := (World.frozen?_of_block (a := ⟨C, 7, none⟩) (hA.block C lC N2.out)).trans gf7
                  have r0 : w1.cell? ⟨w.heap.size + 1, 0, none⟩ = some (.string ⟨#[115, 99, 111, 112, 101, 115]⟩) := (World.cell?_of_block (a := ⟨w.heap.size + 1, 0, none⟩) (hA.block _ lA N3.out)).trans q0
                  have r1 : w1.cell? ⟨w.heap.size + 1, 1, none⟩ = some (.int .i64 m) := (World.cell?_of_block (a := ⟨w.heap.size + 1, 1, none⟩) (hA.block _ lA N3.out)).trans q1))
  all_goals
    go_wp2_with fail
    refine (hp.out w1 g cp hA).mono ?_
    rintro e w' ⟨rfl, hB⟩
    go_wp2
    go_end0
    exact ⟨rfl, hB⟩

end Go.Proofs.Ybulkjwu
