/-
  ByTable[int].Reset: what stands while the tables are ranged over.
-/
import Derived.Test.YbulkjxiBput
namespace Go.Proofs.Ybulkjxi
open Go.RowKit Go.Maps
set_option linter.unusedSimpArgs false
set_option linter.unusedVariables false

structure Rs (w wr : World) (B b M r : Nat) (f : Nat → Option Nat) (s : Nat → Nat) (Ss : Nat → List Nat) (D' : DataW Unit) (f' : Nat → Option Nat) (s' : Nat → Nat) (Ss' : Nat → List Nat) (left : Lit → Bool) : Prop where
  bt : BtAt wr B b M D' f' s' Ss'
  now : ∀ i, i < 12 → f' i = if left (nl i) = true ∨ s i ≤ 8 then f i else none
  num : ∀ i, i < 12 → (f' i).isSome = true → s' i = if left (nl i) = true then s i else 0
  rb : r ≠ b
  rM : r ≠ M
  rS : ∀ i, i < 12 → (f' i).isSome = true → r ∉ Ss' i
  rnew : w.heap.size ≤ r
  rlt : r < wr.heap.size
  mine : ∀ i, i < 12 → (f' i).isSome = true → ∀ k ∈ Ss' i, k ∈ Ss i ∨ w.heap.size ≤ k
  block : ∀ k, k < w.heap.size → k ≠ b → k ≠ M → (∀ i, i < 12 → (f i).isSome = true → k ∉ Ss i) → wr.heap[k]? = w.heap[k]?
  size : w.heap.size ≤ wr.heap.size
  os : wr.os = w.os
  tape : wr.tape = w.tape
  output : wr.output = w.output

theorem BtAt.turn {w w' : World} {B b M r : Nat} {D : DataW Unit} {f : Nat → Option Nat} {s : Nat → Nat} {Ss : Nat → List Nat} (h : BtAt w B b M D f s Ss) (hb : ∀ k, k < w.heap.size → k ≠ r → w'.heap[k]? = w.heap[k]?) (hs : w.heap.size ≤ w'.heap.size) (rb : r ≠ b) (rM : r ≠ M)
    (rS : ∀ i, i < 12 → (f i).isSome = true → r ∉ Ss i) : BtAt w' B b M D f s Ss := by
  have hbl := (Array.getElem?_eq_some_iff.1 h.cell).1
  refine ⟨(hb b hbl rb.symm).trans h.cell, ownsMap_heap h.map (hb M h.map.lt rM.symm), h.tm, h.bM, h.hb, h.hM, fun i p hi hp => ?_, h.apart⟩
  obtain ⟨t, t1, t2, t3⟩ := h.tab i p hi hp
  have hlt : ∀ k ∈ Ss i, k < w.heap.size := by
    obtain ⟨m, rv, n, T, D', t⟩ := t
    exact t.lt
  exact ⟨t.blocks (fun k hk => hb k (hlt k hk) (fun e => rS i hi (by rw [hp]; rfl) (by rw [← e]; exact hk))) hs, t1, t2, t3⟩

def strike (left : Lit → Bool) (kl : Lit) : Lit → Bool := fun z => left z && !z.sameKey kl

theorem strike_same (left : Lit → Bool) (i : Nat) : strike left (nl i) (nl i) = false := by
  simp [strike, nl, Lit.sameKey]
theorem strike_other (left : Lit → Bool) {i j : Nat} (hi : i < 12) (hj : j < 12) (h : j ≠ i) : strike left (nl i) (nl j) = left (nl j) := by
  have : (nl j).sameKey (nl i) = false := Maps.sameKey_ne (fun e => h (nl_inj j i hj hi e))
  simp [strike, this]

/-- The iterator's own step. -/
theorem Rs.step {w wr w1 : World} {B b M r : Nat} {f : Nat → Option Nat} {s : Nat → Nat} {Ss : Nat → List Nat} {D' : DataW Unit} {f' : Nat → Option Nat} {s' : Nat → Nat} {Ss' : Nat → List Nat} {left : Lit → Bool} (h : Rs w wr B b M r f s Ss D' f' s' Ss' left)
    (hg : wr.grownBy w1 (some r)) : Rs w w1 B b M r f s Ss D' f' s' Ss' left := by
  have hb : ∀ k, k < wr.heap.size → k ≠ r → w1.heap[k]? = wr.heap[k]? := fun k hk hne => hg.block k hk (fun e => hne (by injection e))
  have hsz := h.size
  have hrn := h.rnew
  exact ⟨h.bt.turn hb hg.size h.rb h.rM h.rS, h.now, h.num, h.rb, h.rM, h.rS, h.rnew, Nat.lt_of_lt_of_le h.rlt hg.size, h.mine, fun k hk h1 h2 h3 => (hb k (by omega) (by omega)).trans (h.block k hk h1 h2 h3), Nat.le_trans h.size hg.size, hg.os.trans h.os, hg.tape.trans h.tape, hg.output.trans h.output⟩

/-- A table that was too big goes. -/
theorem Rs.del {w w1 w2 : World} {B b M r n : Nat} {f : Nat → Option Nat} {s : Nat → Nat} {Ss : Nat → List Nat} {D' : DataW Unit} {f' : Nat → Option Nat} {s' : Nat → Nat} {Ss' : Nat → List Nat} {left : Lit → Bool} (h : Rs w w1 B b M r f s Ss D' f' s' Ss' left)
    {i : Nat} (hi : i < 12) (h8 : ¬ s i ≤ 8) (ho : w2.ownsMap Yba.prog 9 ptrElem M n (D'.del (nl i))) (hg : w1.grownBy w2 (some M)) :
    Rs w w2 B b M r f s Ss (D'.del (nl i)) (fun j => if j = i then none else f' j) s' Ss' (strike left (nl i)) := by
  have hb : ∀ k, k < w1.heap.size → k ≠ M → w2.heap[k]? = w1.heap[k]? := fun k hk hne => hg.block k hk (fun e => hne (by injection e))
  have hbl := (Array.getElem?_eq_some_iff.1 h.bt.cell).1
  have sub : ∀ j, (if j = i then none else f' j).isSome = true → j ≠ i ∧ (f' j).isSome = true := fun j hj => by
    by_cases e : j = i
    · rw [if_pos e] at hj; cases hj
    · rw [if_neg e] at hj; exact ⟨e, hj⟩
  refine ⟨⟨(hb b hbl h.bt.bM).trans h.bt.cell, ownsMap_tight ho, h.bt.tm.del hi, h.bt.bM, h.bt.hb, h.bt.hM, fun j p hj hp => ?_, fun j k hj hk hjk fj fk => h.bt.apart j k hj hk hjk (sub j fj).2 (sub k fk).2⟩, fun j hj => ?_, fun j hj hs => ?_, h.rb, h.rM, fun j hj hs => h.rS j hj (sub j hs).2, h.rnew, Nat.lt_of_lt_of_le h.rlt hg.size, fun j hj hs => h.mine j hj (sub j hs).2,
    fun k hk h1 h2 h3 => (hb k (by have := h.size; omega) h2).trans (h.block k hk h1 h2 h3), Nat.le_trans h.size hg.size, hg.os.trans h.os, hg.tape.trans h.tape, hg.output.trans h.output⟩
  · have hne := (sub j (by simp only [hp]; rfl)).1
    simp only [if_neg hne] at hp
    obtain ⟨t, t1, t2, t3⟩ := h.bt.tab j p hj hp
    have hlt : ∀ k ∈ Ss' j, k < w1.heap.size := by
      obtain ⟨m, rv, n, T, D', t⟩ := t
      exact t.lt
    exact ⟨t.blocks (fun k hk => hb k (hlt k hk) (fun e => t2 (by rw [← e]; exact hk))) hg.size, t1, t2, t3⟩
  · by_cases e : j = i
    · subst e
      rw [if_pos rfl, strike_same, if_neg (by simp [h8])]
    · rw [if_neg e, strike_other left hi hj e]
      exact h.now j hj
  · obtain ⟨e, hs'⟩ := sub j hs
    rw [strike_other left hi hj e]
    exact h.num j hj hs'

/-- A table that was small is emptied. -/
theorem Rs.clear {w w1 w2 : World} {B b M r : Nat} {f : Nat → Option Nat} {s : Nat → Nat} {Ss : Nat → List Nat} {D' : DataW Unit} {f' : Nat → Option Nat} {s' : Nat → Nat} {Ss' : Nat → List Nat} {left : Lit → Bool} (h : Rs w w1 B b M r f s Ss D' f' s' Ss' left)
    {i p : Nat} {S2 : List Nat} (hi : i < 12) (h8 : s i ≤ 8) (hf : f' i = some p) (hf0 : (f i).isSome = true) (ht : Tab w2 p 0 S2) (hfr : Fr w1 w2 (Ss' i) S2) (hB : B ≤ w1.heap.size) :
    Rs w w2 B b M r f s Ss D' f' (fun j => if j = i then 0 else s' j) (fun j => if j = i then S2 else Ss' j) (strike left (nl i)) := by
  obtain ⟨h1, h2⟩ := bt_put h.bt hi hf ht hfr hB
  have hfs : (f' i).isSome = true := by rw [hf]; rfl
  refine ⟨h1, fun j hj => ?_, fun j hj hs => ?_, h.rb, h.rM, fun j hj hs => ?_, h.rnew, Nat.lt_of_lt_of_le h.rlt hfr.size, fun j hj hs k hk => ?_, fun k hk a1 a2 a3 => ?_, Nat.le_trans h.size hfr.size, hfr.os.trans h.os, hfr.tape.trans h.tape, hfr.output.trans h.output⟩
  · by_cases e : j = i
    · subst e
      rw [strike_same, if_pos (by simp [h8])]
      have := h.now j hj
      rw [if_pos (by simp [h8])] at this
      exact this
    · rw [strike_other left hi hj e]
      exact h.now j hj
  · by_cases e : j = i
    · subst e
      simp only [if_pos]
      rw [strike_same]
      simp
    · simp only [if_neg e]
      rw [strike_other left hi hj e]
      exact h.num j hj hs
  · by_cases e : j = i
    · subst e
      simp only [if_pos]
      intro hm
      rcases hfr.own r hm with h3 | h3
      · exact h.rS j hj hfs h3
      · have := h.rlt; omega
    · simp only [if_neg e]
      exact h.rS j hj hs
  · by_cases e : j = i
    · subst e
      simp only [if_pos] at hk
      rcases hfr.own k hk with h3 | h3
      · exact h.mine j hj hfs k h3
      · exact .inr (Nat.le_trans h.size h3)
    · simp only [if_neg e] at hk
      exact h.mine j hj hs k hk
  · rw [hfr.block k (by have := h.size; omega) (fun hm => by
      rcases h.mine i hi hfs k hm with h3 | h3
      · exact a3 i hi hf0 h3
      · omega)]
    exact h.block k hk a1 a2 a3

theorem ranges_heap {w w' : World} {M r n : Nat} {D : DataW Unit} {left : Lit → Bool} {c : Nat} (h : w.ranges Yba.prog 9 ptrElem M r n D left c) (h1 : w'.heap[M]? = w.heap[M]?) (h2 : w'.heap[r]? = w.heap[r]?) : w'.ranges Yba.prog 9 ptrElem M r n D left c := by
  obtain ⟨es, clock, since, seen, c0, hb, F, hs, hD, hr, rest⟩ := h
  exact ⟨es, clock, since, seen, c0, h1.trans hb, F, hs, hD, h2.trans hr, rest⟩

end Go.Proofs.Ybulkjxi
