/-
  push (of the stack, of the reader) keeps the stack's invariant; the object lies on top.
-/
import Derived.Test.YbulkjwuGrow2
namespace Go.Proofs.Ybulkjwu
open Go.RowKit
set_option linter.unusedSimpArgs false
set_option linter.unusedVariables false

/-- The invariant hangs on the stack's own blocks alone. -/
theorem Stk.blocks {w w' : World} {r n : Nat} {d : Int} {S : List Nat} {T t : Nat} (h : Stk w r n d S T t) (hb : ∀ k ∈ S, w'.heap[k]? = w.heap[k]?) (hs : w.heap.size ≤ w'.heap.size) : Stk w' r n d S T t := by
  obtain ⟨hr, hlt, h⟩ := h
  refine ⟨hr, fun k hk => Nat.lt_of_lt_of_le (hlt k hk) hs, ?_⟩
  rcases h with ⟨h0, hR⟩ | ⟨h1, h2, h3, hTS, hTr, hR, cur, hT, hc⟩ | ⟨F, M, R, u, c, cap, xs, cur, h1, h2, h3, h4, h5, h6, hMS, hRS, hTS, h10, h11, h12, h13, h14, h15, h16, h17, h18, h19, h20⟩
  · exact .inl ⟨h0, (hb r hr).trans hR⟩
  · exact .inr (.inl ⟨h1, h2, h3, hTS, hTr, (hb r hr).trans hR, cur, (hb T hTS).trans hT, hc⟩)
  · exact .inr (.inr ⟨F, M, R, u, c, cap, xs, cur, h1, h2, h3, h4, h5, h6, hMS, hRS, hTS, h10, h11, h12, h13, h14, h15, (hb r hr).trans h16, (hb M hMS).trans h17,
      ownsRow_heap h18 (fun g hg => by simp [Value.ownBlock] at hg; subst hg; exact hb R hRS), (hb T hTS).trans h19, h20⟩)

/-- The row of the top chunk. -/
theorem Stk.row {w : World} {r n : Nat} {d : Int} {S : List Nat} {T t : Nat} (h : Stk w r n d S T t) (hn : 1 ≤ n) : T ∈ S ∧ T ≠ r ∧ ∃ cur, w.heap[T]? = some (.cells cur 66) ∧ t * 10 ≤ cur.size := by
  obtain ⟨hr, hlt, h⟩ := h
  rcases h with ⟨h0, hR⟩ | ⟨h1, h2, h3, hTS, hTr, hR, cur, hT, hc⟩ | ⟨F, M, R, u, c, cap, xs, cur, h1, h2, h3, h4, h5, h6, hMS, hRS, hTS, h10, h11, h12, h13, h14, h15, h16, h17, h18, h19, h20⟩
  · omega
  · exact ⟨hTS, hTr, cur, hT, by omega⟩
  · exact ⟨hTS, h12, cur, h19, by rw [h20]; exact Nat.mul_le_mul_right _ h5⟩

/-- Whatever is written into the top chunk's row. -/
theorem Stk.into {w w' : World} {r n : Nat} {d : Int} {S : List Nat} {T t : Nat} (h : Stk w r n d S T t) (hn : 1 ≤ n) (hb : ∀ k, k ≠ T → w'.heap[k]? = w.heap[k]?) (hs : w'.heap.size = w.heap.size)
    (hT : ∀ cur, w.heap[T]? = some (.cells cur 66) → ∃ cur', w'.heap[T]? = some (.cells cur' 66) ∧ cur'.size = cur.size) : Stk w' r n d S T t := by
  obtain ⟨hr, hlt, h⟩ := h
  refine ⟨hr, fun k hk => by rw [hs]; exact hlt k hk, ?_⟩
  rcases h with ⟨h0, hR⟩ | ⟨h1, h2, h3, hTS, hTr, hR, cur, hTc, hc⟩ | ⟨F, M, R, u, c, cap, xs, cur, h1, h2, h3, h4, h5, h6, hMS, hRS, hTS, h10, h11, h12, h13, h14, h15, h16, h17, h18, h19, h20⟩
  · omega
  · obtain ⟨cur', e1, e2⟩ := hT cur hTc
    exact .inr (.inl ⟨h1, h2, h3, hTS, hTr, (hb r (fun e => hTr e.symm)).trans hR, cur', e1, by omega⟩)
  · obtain ⟨cur', e1, e2⟩ := hT cur h19
    exact .inr (.inr ⟨F, M, R, u, c, cap, xs, cur', h1, h2, h3, h4, h5, h6, hMS, hRS, hTS, h10, h11, h12, h13, h14, h15, (hb r (fun e => h12 e.symm)).trans h16, (hb M (fun e => h14 e.symm)).trans h17,
      ownsRow_heap h18 (fun g hg => by simp [Value.ownBlock] at hg; subst hg; exact hb R (fun e => h15 e.symm)), e1, by omega⟩)

theorem setCells_row (b : Nat) (e : TypeId) : ∀ (vs : List Value) (o : Nat) (w : World) (cs : Array Value), w.heap[b]? = some (.cells cs e (0, 0)) → ∃ cs', (w.setCells b o vs).heap[b]? = some (.cells cs' e (0, 0)) ∧ cs'.size = cs.size
  | [], _, w, cs, h => ⟨cs, h, rfl⟩
  | v :: r, o, w, cs, h => by
    obtain ⟨cs', h1, h2⟩ := setCells_row b e r (o + 1) (w.setCell ⟨b, o, none⟩ v) _ (sc_same o v h)
    exact ⟨cs', h1, by simpa using h2⟩

theorem setCells_other (b : Nat) : ∀ (vs : List Value) (o : Nat) (w : World), (w.setCells b o vs).heap.size = w.heap.size ∧ (w.setCells b o vs).os = w.os ∧ (w.setCells b o vs).tape = w.tape ∧ (w.setCells b o vs).output = w.output ∧ ∀ k, k ≠ b → (w.setCells b o vs).heap[k]? = w.heap[k]?
  | [], _, w => ⟨rfl, rfl, rfl, rfl, fun _ _ => rfl⟩
  | v :: r, o, w => by
    obtain ⟨h1, h2, h3, h4, h5⟩ := setCells_other b r (o + 1) (w.setCell ⟨b, o, none⟩ v)
    exact ⟨h1.trans (sc_size _ _ _), h2, h3, h4, fun k hk => (h5 k hk).trans (sc_other _ _ hk)⟩

/-- The object obj has been pushed. -/
def Pushed (w : World) (r n : Nat) (d : Int) (S : List Nat) (obj : Array Value) (w' : World) : Prop :=
  ∃ S' T' t', 1 ≤ t' ∧ Stk w' r (n + 1) d S' T' t' ∧ (∀ i, i < 10 → w'.cell? ⟨T', (t' - 1) * 10 + i, none⟩ = obj[i]?) ∧ Frame w w' S S'

theorem push_stk {w : World} {r n : Nat} {d : Int} {S : List Nat} {T t : Nat} (hS : Stk w r n d S T t) (h60 : n < 60) (pa : Option Addr) (s1 : ByteArray) (ix : Int) :
    Calls Yba.prog 13 #[.pointer (some ⟨r, 2, none⟩), .agg (objCells pa s1 ix)] w fun e w'' => e = .returned (.tuple #[]) ∧ Pushed w r n d S (objCells pa s1 ix) w'' := by
  have hlt := hS.2.1
  have hA : Stk (w.alloc (.cells (objCells pa s1 ix) 66)) r n d S T t := hS.blocks (fun k hk => Below.heap_alloc w _ k (hlt k hk)) (by simp)
  have hsz : (w.alloc (.cells (objCells pa s1 ix) 66)).heap.size = w.heap.size + 1 := by simp
  have facts : ∀ w' T q, Grows (w.alloc (.cells (objCells pa s1 ix) 66)) r n d S w' T q → (∀ i, i < 10 → ∃ u, w'.cell? ⟨T, q + i, none⟩ = some u) ∧ (∀ i, w'.frozen? ⟨T, q + i, none⟩ = false) ∧ w'.heap[w.heap.size]? = some (.cells (objCells pa s1 ix) 66) ∧ T ≠ w.heap.size := by
    rintro w' T q ⟨S', t', h1, rfl, hst, hfr⟩
    obtain ⟨hTS, hTr, cur, hT, hc⟩ := hst.row (by omega)
    refine ⟨fun i hi => ⟨cur[(t' - 1) * 10 + i]'(by omega), ?_⟩, fun i => frozen_of_row _ _ _ _ 66 hT, ?_, ?_⟩
    · rw [cell_of_row _ _ _ _ 66 (0, 0) hT, Array.getElem?_eq_getElem (by omega)]
    · rw [hfr.block _ (by omega) (fun hm => by have := hlt _ hm; omega)]
      exact heap_alloc_new w _
    · rcases hfr.own T hTS with h | h
      · have := hlt T h; omega
      · omega
  refine (push_of r 2 pa s1 ix w (Grows (w.alloc (.cells (objCells pa s1 ix) 66)) r n d S) (fun X hX => ?_) facts).mono ?_
  · refine (grow_any (hA.heap hX.heap) h60).mono fun e w' h => ?_
    obtain ⟨T', q, he, S', t', a1, a2, a3, a4⟩ := h
    obtain ⟨x1, x2, x3⟩ := hX.eqs
    exact ⟨T', q, he, S', t', a1, a2, a3, ⟨fun k hk hn => by have := a4.block k (by rw [hX.heap]; exact hk) hn; rwa [hX.heap] at this, fun k hk => by have := a4.own k hk; rwa [hX.heap] at this, by have := a4.size; rwa [hX.heap] at this, a4.os.trans x1, a4.tape.trans x2, a4.output.trans x3⟩⟩
  · rintro e w'' ⟨rfl, w', T', q, hg, hm⟩
    refine ⟨rfl, ?_⟩
    obtain ⟨f1, f2, f3, f4⟩ := facts w' T' q hg
    obtain ⟨S', t', h1, rfl, hst, hfr⟩ := hg
    obtain ⟨hTS, hTr, cur, hT, hc⟩ := hst.row (by omega)
    obtain ⟨z1, z2, z3, z4, z5⟩ := setCells_other T' (objCells pa s1 ix).toList ((t' - 1) * 10) w'
    obtain ⟨x1, x2, x3⟩ := hm.eqs
    refine ⟨S', T', t', h1, (hst.into (by omega) z5 z1 (fun cur hc => setCells_row T' 66 _ _ w' cur hc)).heap hm.heap, fun i hi => ?_, ⟨fun k hk hn => ?_, fun k hk => ?_, ?_, x1.trans (z2.trans hfr.os), x2.trans (z3.trans hfr.tape), x3.trans (z4.trans hfr.output)⟩⟩
    · rw [hm.cell, World.cell?_setCells_in T' (objCells pa s1 ix).toList ((t' - 1) * 10) w' (fun j hj => by obtain ⟨u, hu⟩ := f1 j hj; rw [hu]; rfl) i hi]
      rw [← Array.getElem?_toList]
      exact (List.getElem?_eq_getElem hi).symm
    · have hkT : k ≠ T' := by
        intro e
        rcases hfr.own T' hTS with h | h
        · exact hn (by rw [e]; exact h)
        · omega
      rw [hm.heap, z5 k hkT, hfr.block k (by omega) hn]
      exact Below.heap_alloc w _ k hk
    · rcases hfr.own k hk with h | h
      · exact .inl h
      · exact .inr (by omega)
    · rw [hm.heap, z1]
      have := hfr.size
      omega

end Go.Proofs.Ybulkjwu
