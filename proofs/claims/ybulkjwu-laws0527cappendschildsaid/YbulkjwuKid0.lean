/-
  LawS0527CAppendsChild: small laws for the walk.
-/
import Derived.Test.YbulkjwuDone
import Derived.Lib.Builder
import Derived.LaidEqlPtr
import Derived.WalkSmall
namespace Go.Proofs.Ybulkjwu
open Go.RowKit
set_option linter.unusedSimpArgs false
set_option linter.unusedVariables false

theorem wpList_append42 {ops : Array Oper} {rest : List Oper} {o : Oper} {a : Act} {Q : Exit → Act → World → Prop} (hgd : o.guard = none) (s x : Operand)
    (ho : o.op = .call { callee := .builtin .append, args := #[s, x], argTypes := #[46, 46] }) (hty : o.type = 46) (W : World) (v : Value) (n : Nat) (xs : List Value) (y : Value)
    (q : Nat) (hq : W.heap.size = q) (hs : a.eval s = v) (hx : a.eval x = .slice (some ⟨q, 0, none⟩) 1 1) (hown : W.ownsRow 0 42 1 v n xs) (hn : n ≤ 10000) (h1 : y.oneCell' = true)
    (h : ∀ w' g cp, n + 1 ≤ cp → App1 W w' v (.slice (some ⟨g, 0, none⟩) (n + 1) cp) n xs y → wpList Yba.prog ops Q rest (a.put o.dst (.slice (some ⟨g, 0, none⟩) (n + 1) cp)) w') : wpList Yba.prog ops Q (o :: rest) a (W.alloc (.cells #[y] 42)) := by
  subst hq
  obtain ⟨v', w', hr, g, cp, rfl, hcp, hA⟩ := app42 W v n 0 xs y hown hn h1
  refine wpList_append_run hgd s x 46 46 ho v _ hs hx _ w' ?_ (h w' g cp hcp hA)
  rw [hty]
  exact hr

theorem par_cell {w wr : World} {B C : Nat} {v o u x : Value} {nm : ByteArray} {ps qs : List Nat} (h : Par w wr B C (contCells nm 0 v u) v o u x ps qs) : wr.cell? ⟨C, 7, none⟩ = some v ∧ wr.cell? ⟨C, 8, none⟩ = some u ∧ wr.frozen? ⟨C, 7, none⟩ = false ∧ wr.frozen? ⟨C, 8, none⟩ = false ∧ C < wr.heap.size :=
  ⟨cell_of_row _ _ 7 _ 48 (0, 0) h.par, cell_of_row _ _ 8 _ 48 (0, 0) h.par, frozen_of_row _ _ 7 _ 48 h.par, frozen_of_row _ _ 8 _ 48 h.par, (Array.getElem?_eq_some_iff.1 h.par).1⟩

theorem own_slice {w : World} {v : Value} {n : Nat} {xs : List Value} (h : w.ownsRow 0 42 1 v n xs) : ∃ a c, v = .slice a n c ∧ ∀ i y, xs[i]? = some y → ∃ g, a = some ⟨g, 0, none⟩ ∧ w.cell? ⟨g, i, none⟩ = some y := by
  rcases h.2 with ⟨rfl, rfl⟩ | ⟨q, c, cur, rfl, _, hq, hn, hm, hc, ht⟩
  · refine ⟨none, 0, rfl, fun i y hy => ?_⟩
    have : xs = [] := List.eq_nil_of_length_eq_zero (by simpa using h.1)
    subst this
    simp at hy
  · refine ⟨_, c, rfl, fun i y hy => ⟨q, rfl, ?_⟩⟩
    rw [cell_of_row _ _ _ _ 42 (0, 0) hq]
    have hl : xs.length = n := by simpa using h.1
    have hi : i < xs.length := (List.getElem?_eq_some_iff.1 hy).1
    rw [Nat.mul_one] at ht
    rw [← ht, List.getElem?_take] at hy
    rw [if_pos (by omega)] at hy
    simpa using hy

abbrev PN : ByteArray := ⟨#[112, 97, 114, 101, 110, 116]⟩

theorem par_start (w : World) (o1 : Obj) (n C : Nat) (hC : C = w.heap.size + 1) (hn : n ≤ 1000) : Par w (((w.alloc o1).alloc (.cells (contCells PN 0 (.slice none 0 0) (.slice none 0 0)) 48)).alloc (.cells (madeCells (Value.pointer none).cells n) 42))
      w.heap.size C (contCells PN 0 (.slice none 0 0) (.slice none 0 0)) (.slice none 0 0) (.slice (some ⟨w.heap.size + 1 + 1, 0, none⟩) 0 n) (.slice none 0 0) (.slice none 0 0) [] [] := by
  have e2 : ((w.alloc o1).alloc (.cells (contCells PN 0 (.slice none 0 0) (.slice none 0 0)) 48)).heap.size = w.heap.size + 1 + 1 := by simp
  have e1 : (w.alloc o1).heap.size = w.heap.size + 1 := by simp
  refine ⟨(((Below.refl _ _).alloc (Nat.le_refl _) _).alloc (by simp) _).alloc (by simp; omega) _, by omega, ?_, World.ownsRow_nil _ _ _ _, ?_, World.ownsRow_nil _ _ _ _, World.ownsRow_nil _ _ _ _, fun g hg => (by cases hg), fun g hg => (by cases hg), fun g hg => (by cases hg), fun g hg hg' => (by cases hg'), fun g hg hg' => (by cases hg'), fun g hg => (by cases hg),
    fun g hg => (by cases hg), fun g hg => (by cases hg; simp; omega), fun g hg => (by cases hg), fun g hg => (by cases hg), fun p hp => (by simp at hp), by simp; omega⟩
  · rw [hC, Below.heap_alloc _ _ _ (by simp), ← e1]
    exact heap_alloc_new _ _
  · have := mk46_own n hn ((w.alloc o1).alloc (.cells (contCells PN 0 (.slice none 0 0) (.slice none 0 0)) 48))
    rw [e2] at this
    exact this

theorem par_second {w wo : World} {B C : Nat} {cs : Array Value} {v o : Value} {ps : List Nat} (h : Par w wo B C cs v o (.slice none 0 0) (.slice none 0 0) ps []) (n : Nat) (hn : n ≤ 1000) :
    Par w (wo.alloc (.cells (madeCells (Value.pointer none).cells n) 42)) B C cs (.slice none 0 0) (.slice (some ⟨wo.heap.size, 0, none⟩) 0 n) v o [] ps := by
  have hb := h.big
  have hold : ∀ k, k < wo.heap.size → (wo.alloc (.cells (madeCells (Value.pointer none).cells n) 42)).heap[k]? = wo.heap[k]? := fun k hk => Below.heap_alloc _ _ _ hk
  refine ⟨h.below.alloc hb _, h.hiC, (hold C (Array.getElem?_eq_some_iff.1 h.par).1).trans h.par, World.ownsRow_nil _ _ _ _, mk46_own n hn wo, h.ownV.alloc _, h.ownO.alloc _, fun g hg => (by cases hg), fun g hg => (by cases hg), fun g hg => (by cases hg), fun g hg e => ?_, fun g hg e => ?_, h.vo, fun g hg => (by cases hg), fun g hg => ?_, h.hiV, h.hiO, fun p hp => ?_, by simp; omega⟩
  · have := (row_lt h.ownV e).1
    cases hg
    simp at this
  · have := (row_lt h.ownO e).1
    cases hg
    simp at this
  · cases hg
    exact hb
  · simp at hp
    obtain ⟨c, hc⟩ := h.live p (.inl hp)
    exact ⟨c, (hold p (Array.getElem?_eq_some_iff.1 hc).1).trans hc⟩

theorem neq_same42 (W : World) (a : Addr) : (binOp .neq 42 (.pointer (some a)) (.pointer (some a))).run Yba.prog W = .ok (.bool false) W := by
  obtain ⟨j48, hj48⟩ : ∃ j, Yba.prog.info? 48 = some j := Option.isSome_iff_exists.1 (by kernel_rfl)
  exact Lib.run_neq_ptr_same W a Yba.underlying42 hj48

theorem eql_other42 (W : World) (a b : Addr) (ca cb : Array Value) (ta tb : TypeId) (hne : a ≠ b) (ha : W.heap[a.block]? = some (.cells ca ta (0, 0))) (hb : W.heap[b.block]? = some (.cells cb tb (0, 0))) :
    (binOp .eql 42 (.pointer (some a)) (.pointer (some b))).run Yba.prog W = .ok (.bool false) W := by
  obtain ⟨j48, hj48⟩ : ∃ j, Yba.prog.info? 48 = some j := Option.isSome_iff_exists.1 (by kernel_rfl)
  have hs : (Yba.prog.info? 48).map (·.size) = some 9 := by kernel_rfl
  rw [hj48] at hs
  simp at hs
  exact run_eql_ptr_other W Yba.underlying42 hj48 (by omega) hne ha hb

theorem row_more {w : World} {v : Value} {ps : List Nat} {child : Nat} (h : w.ownsRow 0 42 1 v (ps.length + 1) (ptrs ps ++ [.pointer (some ⟨child, 0, none⟩)])) :
    ∃ g c, v = .slice (some ⟨g, 0, none⟩) (ps.length + 1) c ∧ (∀ j, j < ps.length → w.cell? ⟨g, j, none⟩ = some (.pointer (some ⟨ps.getD j 0, 0, none⟩))) ∧ w.cell? ⟨g, ps.length, none⟩ = some (.pointer (some ⟨child, 0, none⟩)) := by
  obtain ⟨a, c, rfl, hc⟩ := own_slice h
  have hl : (ptrs ps).length = ps.length := by simp [ptrs]
  obtain ⟨g, rfl, hg⟩ := hc ps.length (.pointer (some ⟨child, 0, none⟩)) (by rw [List.getElem?_append_right (by omega)]; simp [hl])
  refine ⟨g, c, rfl, fun j hj => ?_, hg⟩
  obtain ⟨g', he, hg'⟩ := hc j (.pointer (some ⟨ps.getD j 0, 0, none⟩)) (by rw [List.getElem?_append_left (by omega)]; simp [ptrs, List.getD, List.getElem?_eq_getElem hj])
  injection he with he
  injection he with he
  rw [he]
  exact hg'

theorem row_at {w : World} {a : Option Addr} {n m c : Nat} {ps : List Nat} (h : w.ownsRow 0 42 1 (.slice a m c) ps.length (ptrs ps)) (hl : ps.length = n) :
    ∀ j, j < n → ∃ g, a = some ⟨g, 0, none⟩ ∧ w.cell? ⟨g, j, none⟩ = some (.pointer (some ⟨ps.getD j 0, 0, none⟩)) := by
  subst hl
  intro j hj
  obtain ⟨a', c', e, hc⟩ := own_slice h
  injection e with e1 e2 e3
  subst e1
  exact hc j _ (by simp [ptrs, List.getD, List.getElem?_eq_getElem hj])

theorem getD_mem {l : List Nat} {j : Nat} (h : j < l.length) : l.getD j 0 ∈ l := by
  simp [List.getD, List.getElem?_eq_getElem h]

end Go.Proofs.Ybulkjwu
