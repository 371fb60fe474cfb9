/-
  LawS0528BReset: small laws for the walk.
-/
import Derived.Test.YbulkjxiLaw0
import Derived.WalkSmall
import Derived.Lib.Builder
namespace Go.Proofs.Ybulkjxi
open Go.RowKit Go.Maps
set_option linter.unusedSimpArgs false
set_option linter.unusedVariables false

/-- The operations, as cells. -/
def OpsAt (w : World) (a : Option Addr) (n : Nat) : Prop := n = 0 ∨ ∃ g off, a = some ⟨g, off, none⟩ ∧ ∀ j, j < n → ∃ t k v : Int, w.cell? ⟨g, off + j * 3, none⟩ = some (.int .u8 t) ∧ w.cell? ⟨g, off + j * 3 + 1, none⟩ = some (.int .u8 k) ∧ w.cell? ⟨g, off + j * 3 + 2, none⟩ = some (.int .i64 v) ∧
  0 ≤ t ∧ t ≤ 255 ∧ 0 ≤ k ∧ k ≤ 255 ∧ (Lit.int .i64 v).wf = true

theorem ext_name (t : Nat) (ht : t < 12) : (⟨#[97, 98, 99, 100, 101, 102, 103, 104, 105, 106, 107, 108]⟩ : ByteArray).extract t (t + 1) = nameOf t := by
  have h : t = 0 ∨ t = 1 ∨ t = 2 ∨ t = 3 ∨ t = 4 ∨ t = 5 ∨ t = 6 ∨ t = 7 ∨ t = 8 ∨ t = 9 ∨ t = 10 ∨ t = 11 := by omega
  rcases h with rfl | rfl | rfl | rfl | rfl | rfl | rfl | rfl | rfl | rfl | rfl | rfl
  all_goals rfl
theorem ext_key (t : Nat) (ht : t < 16) : (⟨#[48, 49, 50, 51, 52, 53, 54, 55, 56, 57, 97, 98, 99, 100, 101, 102]⟩ : ByteArray).extract t (t + 1) = keyOfN t := by
  have h : t = 0 ∨ t = 1 ∨ t = 2 ∨ t = 3 ∨ t = 4 ∨ t = 5 ∨ t = 6 ∨ t = 7 ∨ t = 8 ∨ t = 9 ∨ t = 10 ∨ t = 11 ∨ t = 12 ∨ t = 13 ∨ t = 14 ∨ t = 15 := by omega
  rcases h with rfl | rfl | rfl | rfl | rfl | rfl | rfl | rfl | rfl | rfl | rfl | rfl | rfl | rfl | rfl | rfl
  all_goals rfl

theorem Bt.grow {w w' : World} {B b : Nat} {mo : Option Nat} {f : Nat → Option Nat} {s : Nat → Nat} {Ss : Nat → List Nat} (h : Bt w B b mo f s Ss) (hb : ∀ k, k < w.heap.size → w'.heap[k]? = w.heap[k]?) (hs : w.heap.size ≤ w'.heap.size) : Bt w' B b mo f s Ss := by
  rcases h with ⟨rfl, hBb, hc, hf⟩ | ⟨M, D, rfl, h⟩
  · exact .inl ⟨rfl, hBb, (hb b (Array.getElem?_eq_some_iff.1 hc).1).trans hc, hf⟩
  · have hbl := (Array.getElem?_eq_some_iff.1 h.cell).1
    have hml := h.map.lt
    refine .inr ⟨M, D, rfl, h.turn (r := w.heap.size) (fun k hk _ => hb k hk) hs (by omega) (by omega) (fun i hi hx hm => ?_)⟩
    obtain ⟨q, hq⟩ := Option.isSome_iff_exists.1 hx
    obtain ⟨⟨m, rv, n, T, D', t⟩, _⟩ := h.tab i q hi hq
    have := t.lt _ hm
    omega

def numOf (f : Nat → Option Nat) (s : Nat → Nat) (j : Nat) : Nat := if (f j).isSome then s j else 0

/-- The law's two arrays, filled up to i. -/
structure Arr (w1 wr : World) (f : Nat → Option Nat) (s : Nat → Nat) (i : Nat) : Prop where
  ptr : ∃ pc, wr.heap[w1.heap.size]? = some (.cells pc 30) ∧ pc.size = 12 ∧ ∀ j, j < i → pc[j]? = some (ptrVal (f j))
  num : ∃ nc, wr.heap[w1.heap.size + 1]? = some (.cells nc 31) ∧ nc.size = 12 ∧ ∀ j, j < i → nc[j]? = some (.int .i64 (numOf f s j))
  block : ∀ k, k < w1.heap.size → wr.heap[k]? = w1.heap[k]?
  size : wr.heap.size = w1.heap.size + 2
  os : wr.os = w1.os
  tape : wr.tape = w1.tape
  output : wr.output = w1.output

theorem Arr.start (w1 : World) (f : Nat → Option Nat) (s : Nat → Nat) (a b : Array Value) (ha : a.size = 12) (hb : b.size = 12) : Arr w1 ((w1.alloc (.cells a 30)).alloc (.cells b 31)) f s 0 := by
  have e1 : (w1.alloc (.cells a 30)).heap.size = w1.heap.size + 1 := by simp
  refine ⟨⟨a, ?_, ha, fun j hj => by omega⟩, ⟨b, ?_, hb, fun j hj => by omega⟩, fun k hk => ?_, by simp, rfl, rfl, rfl⟩
  · rw [Below.heap_alloc _ _ _ (by omega)]
    exact heap_alloc_new w1 _
  · rw [← e1]
    exact heap_alloc_new _ _
  · rw [Below.heap_alloc _ _ _ (by omega), Below.heap_alloc _ _ _ hk]

theorem Arr.step {w1 wr : World} {f : Nat → Option Nat} {s : Nat → Nat} {i : Nat} (h : Arr w1 wr f s i) (hi : i < 12) : Arr w1 ((wr.setCell ⟨w1.heap.size, i, none⟩ (ptrVal (f i))).setCell ⟨w1.heap.size + 1, i, none⟩ (.int .i64 (numOf f s i))) f s (i + 1) := by
  obtain ⟨pc, p1, p2, p3⟩ := h.ptr
  obtain ⟨nc, n1, n2, n3⟩ := h.num
  refine ⟨⟨_, by rw [sc_other _ _ (by omega)]; exact sc_same i _ p1, by simpa using p2, fun j hj => ?_⟩, ⟨_, sc_same i _ (by rw [sc_other _ _ (by omega)]; exact n1), by simpa using n2, fun j hj => ?_⟩, fun k hk => ?_, by rw [sc_size, sc_size]; exact h.size, h.os, h.tape, h.output⟩
  · by_cases e : j = i
    · subst e
      simp [Array.getElem?_setIfInBounds, p2, hi]
    · rw [Array.getElem?_setIfInBounds_ne (fun e' => e e'.symm)]
      exact p3 j (by omega)
  · by_cases e : j = i
    · subst e
      simp [Array.getElem?_setIfInBounds, n2, hi]
    · rw [Array.getElem?_setIfInBounds_ne (fun e' => e e'.symm)]
      exact n3 j (by omega)
  · rw [sc_other _ _ (by omega), sc_other _ _ (by omega)]
    exact h.block k hk

end Go.Proofs.Ybulkjxi
