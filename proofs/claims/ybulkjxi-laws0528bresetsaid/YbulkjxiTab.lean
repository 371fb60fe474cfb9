/-
  A table (Indexed[int]): its values, its tree; Put, Len, Clear.
-/
import Derived.Test.YbulkjxiClear
import Derived.Maps.Own
import Derived.Maps.OwnOps
import Derived.Maps.OwnSet
import Derived.Maps.Views
import Derived.Maps.RangeWalk
namespace Go.Proofs.Ybulkjxi
open Go.RowKit Go.Maps
set_option linter.unusedSimpArgs false
set_option linter.unusedVariables false

theorem law9 : Keyed Yba.prog 9 := string_keyed Yba.underlying9

def keyLits : List Lit := [48, 49, 50, 51, 52, 53, 54, 55, 56, 57, 97, 98, 99, 100, 101, 102].map fun b : UInt8 => Lit.string [b]
theorem keyLits_len : keyLits.length = 16 := rfl

theorem length_le_of_sub : ∀ (l L : List Lit), l.Nodup → (∀ x ∈ l, x ∈ L) → l.length ≤ L.length
  | [], _, _, _ => Nat.zero_le _
  | x :: r, L, hn, hs => by
    have dec : DecidableEq Lit := fun a b => Classical.propDecidable (a = b)
    have hx : x ∈ L := hs x (by simp)
    have hn' := List.nodup_cons.1 hn
    have hsub : ∀ y ∈ r, y ∈ L.erase x := fun y hy => (List.mem_erase_of_ne (fun (e : y = x) => hn'.1 (e ▸ hy))).2 (hs y (by simp [hy]))
    have := length_le_of_sub r (L.erase x) hn'.2 hsub
    rw [List.length_erase_of_mem hx] at this
    have hp : 0 < L.length := List.length_pos_of_mem hx
    simp
    omega

theorem sameKey_self {l : Lit} (h : WideAt.IsKeyLit l) : l.sameKey l = true := by
  cases l <;> simp_all [WideAt.IsKeyLit, Lit.sameKey]

theorem size_le_keys {w : World} {R : Value → Option (DataW Unit × List MemPlace)} {b n : Nat} {D : DataW Unit} (h : w.ownsMap Yba.prog 9 R b n D) (hk : ∀ kl, Maps.has D kl = true → kl ∈ keyLits) : Maps.size D ≤ 16 := by
  obtain ⟨es, rfl, hp, hkl⟩ := h.entries law9
  rw [Maps.size_eq]
  have := length_le_of_sub (es.map Prod.fst) keyLits (by
    rw [List.Nodup, List.pairwise_map]
    exact hp) (fun x hx => by
      obtain ⟨p, hp, rfl⟩ := List.mem_map.1 hx
      refine hk p.1 ?_
      rw [Maps.has_eq, List.any_eq_true]
      exact ⟨p, hp, sameKey_self (hkl p hp)⟩)
  simpa [keyLits_len] using this

structure TabAt (w : World) (p s : Nat) (S : List Nat) (m : Nat) (rv : Value) (n : Nat) (T : List Nat) (D : DataW Unit) : Prop where
  own : w.heap[p]? = some (.cells #[.map (some m), rv] 45)
  vals : w.ownsMap Yba.prog 9 (plainElem Yba.prog 3) m s D
  size : Maps.size D = s
  keys : ∀ kl, Maps.has D kl = true → kl ∈ keyLits
  root : Root w rv n T
  le : n ≤ s
  pS : p ∈ S
  mS : m ∈ S
  TS : ∀ k ∈ T, k ∈ S
  pm : p ≠ m
  pT : p ∉ T
  mT : m ∉ T
  lt : ∀ k ∈ S, k < w.heap.size

def Tab (w : World) (p s : Nat) (S : List Nat) : Prop := ∃ m rv n T D, TabAt w p s S m rv n T D

structure Fr (w w' : World) (S S' : List Nat) : Prop where
  block : ∀ k, k < w.heap.size → k ∉ S → w'.heap[k]? = w.heap[k]?
  own : ∀ k ∈ S', k ∈ S ∨ w.heap.size ≤ k
  size : w.heap.size ≤ w'.heap.size
  os : w'.os = w.os
  tape : w'.tape = w.tape
  output : w'.output = w.output

theorem ownsMap_heap {w w' : World} {R : Value → Option (DataW Unit × List MemPlace)} {b n : Nat} {D : DataW Unit} (h : w.ownsMap Yba.prog 9 R b n D) (hb : w'.heap[b]? = w.heap[b]?) : w'.ownsMap Yba.prog 9 R b n D := by
  obtain ⟨es, clock, h1, h2⟩ := h
  exact ⟨es, clock, hb.trans h1, h2⟩

theorem ownsMap_tight {w : World} {R : Value → Option (DataW Unit × List MemPlace)} {b n : Nat} {D : DataW Unit} (h : w.ownsMap Yba.prog 9 R b n D) : w.ownsMap Yba.prog 9 R b (Maps.size D) D := by
  obtain ⟨es, clock, h1, h2, h3, rfl⟩ := h
  exact ⟨es, clock, h1, h2, by simp [Maps.size, length_sorted], rfl⟩

theorem Tab.blocks {w w' : World} {p s : Nat} {S : List Nat} (h : Tab w p s S) (hb : ∀ k ∈ S, w'.heap[k]? = w.heap[k]?) (hs : w.heap.size ≤ w'.heap.size) : Tab w' p s S := by
  obtain ⟨m, rv, n, T, D, h⟩ := h
  exact ⟨m, rv, n, T, D, (hb p h.pS).trans h.own, ownsMap_heap h.vals (hb m h.mS), h.size, h.keys, h.root.blocks (fun k hk => hb k (h.TS k hk)) hs, h.le, h.pS, h.mS, h.TS, h.pm, h.pT, h.mT, fun k hk => Nat.lt_of_lt_of_le (h.lt k hk) hs⟩

theorem TabAt.small {w : World} {p s : Nat} {S : List Nat} {m : Nat} {rv : Value} {n : Nat} {T : List Nat} {D : DataW Unit} (h : TabAt w p s S m rv n T D) : s ≤ 16 := by
  rw [← h.size]
  exact size_le_keys h.vals h.keys

end Go.Proofs.Ybulkjxi
