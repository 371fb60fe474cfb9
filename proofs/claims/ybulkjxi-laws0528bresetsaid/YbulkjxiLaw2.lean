/-
  LawS0528BReset: what the two arrays hold behind the Reset.
-/
import Derived.Test.YbulkjxiLaw1
namespace Go.Proofs.Ybulkjxi
open Go.RowKit Go.Maps
set_option linter.unusedSimpArgs false
set_option linter.unusedVariables false

theorem Bt.lt {w : World} {B b : Nat} {mo : Option Nat} {f : Nat → Option Nat} {s : Nat → Nat} {Ss : Nat → List Nat} (h : Bt w B b mo f s Ss) : b < w.heap.size ∧ (∀ M, mo = some M → M < w.heap.size) ∧ ∀ i, i < 12 → (f i).isSome = true → ∀ k ∈ Ss i, k < w.heap.size := by
  rcases h with ⟨rfl, _, hc, hf⟩ | ⟨M, D, rfl, h⟩
  · exact ⟨(Array.getElem?_eq_some_iff.1 hc).1, fun M hM => (by cases hM), fun i hi hx => (by rw [hf i hi] at hx; cases hx)⟩
  · refine ⟨(Array.getElem?_eq_some_iff.1 h.cell).1, fun M' hM => (by cases hM; exact h.map.lt), fun i hi hx k hk => ?_⟩
    obtain ⟨q, hq⟩ := Option.isSome_iff_exists.1 hx
    obtain ⟨⟨m, rv, n, T, D', t⟩, _⟩ := h.tab i q hi hq
    exact t.lt k hk

theorem arr_kept {w1 w2 w3 : World} {B b : Nat} {mo mo' : Option Nat} {f f' : Nat → Option Nat} {s s' : Nat → Nat} {Ss Ss' : Nat → List Nat} (h1 : Bt w1 B b mo f s Ss) (A : Arr w1 w2 f s 12) (R : ResetTo w2 w3 b mo f s Ss mo' f' s' Ss') :
    ∀ i, i < 12 → w3.cell? ⟨w1.heap.size, i, none⟩ = some (ptrVal (f i)) ∧ w3.cell? ⟨w1.heap.size + 1, i, none⟩ = some (.int .i64 (numOf f s i)) := by
  obtain ⟨hb, hM, hS⟩ := h1.lt
  have keep : ∀ k, w1.heap.size ≤ k → k < w1.heap.size + 2 → w3.heap[k]? = w2.heap[k]? := fun k hk hk2 => R.block k (by rw [A.size]; exact hk2) (by omega) (fun M hm => by have := hM M hm; omega) (fun i hi hx hm => by have := hS i hi hx k hm; omega)
  obtain ⟨pc, p1, p2, p3⟩ := A.ptr
  obtain ⟨nc, n1, n2, n3⟩ := A.num
  intro i hi
  exact ⟨by rw [cell_of_row _ _ _ _ 30 (0, 0) ((keep _ (Nat.le_refl _) (by omega)).trans p1)]; exact p3 i hi, by rw [cell_of_row _ _ _ _ 31 (0, 0) ((keep _ (Nat.le_succ _) (by omega)).trans n1)]; exact n3 i hi⟩

end Go.Proofs.Ybulkjxi
