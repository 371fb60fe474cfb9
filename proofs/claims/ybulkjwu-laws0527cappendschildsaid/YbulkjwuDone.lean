/-
  What stands behind openChild, for the law's own tests.
-/
import Derived.Test.YbulkjwuFam
import Derived.Test.YbulkjwuChildS
import Derived.Test.YbulkjwuChildT
namespace Go.Proofs.Ybulkjwu
open Go.RowKit
set_option linter.unusedSimpArgs false
set_option linter.unusedVariables false

/-- The reader at the block behind w2, n objects pushed. -/
structure Rdy (w2 wr : World) (n : Nat) (S : List Nat) (T t : Nat) : Prop where
  stk : Stk wr w2.heap.size n n S T t
  mine : ∀ k ∈ S, w2.heap.size ≤ k
  block : ∀ k, k < w2.heap.size → wr.heap[k]? = w2.heap[k]?
  size : w2.heap.size ≤ wr.heap.size
  os : wr.os = w2.os
  tape : wr.tape = w2.tape
  output : wr.output = w2.output

theorem Rdy.start (w2 : World) : Rdy w2 (w2.alloc (rdr (.slice none 0 0) (.pointer none) 0 0)) 0 [w2.heap.size] 0 0 :=
  ⟨⟨by simp, fun k hk => by simp at hk; subst hk; simp, .inl ⟨rfl, heap_alloc_new w2 _⟩⟩, fun k hk => by simp at hk; omega, fun k hk => Below.heap_alloc _ _ _ hk, by simp, rfl, rfl, rfl⟩

theorem Rdy.push {w2 wr w' : World} {n : Nat} {S : List Nat} {T t : Nat} {obj : Array Value} (h : Rdy w2 wr n S T t) (hp : Pushed wr w2.heap.size n (n + 1 : Nat) S obj w') : ∃ S' T' t', Rdy w2 w' (n + 1) S' T' t' := by
  obtain ⟨S', T', t', h1, h2, h3, h4⟩ := hp
  exact ⟨S', T', t', h2, fun k hk => by rcases h4.own k hk with e | e; exact h.mine k e; exact Nat.le_trans h.size e, fun k hk => (h4.block k (Nat.lt_of_lt_of_le hk h.size) (fun hm => by have := h.mine k hm; omega)).trans (h.block k hk),
    Nat.le_trans h.size h4.size, h4.os.trans h.os, h4.tape.trans h.tape, h4.output.trans h.output⟩

structure Done (w w' : World) (B C r O n : Nat) (inn : ByteArray) (cs' : Array Value) (v' o u x : Value) (ps qs : List Nat) (child T' t' : Nat) : Prop where
  below : Below B w w'
  par : w'.heap[C]? = some (.cells cs' 48)
  ownV : w'.ownsRow 0 42 1 v' (ps.length + 1) (ptrs ps ++ [.pointer (some ⟨child, 0, none⟩)])
  ownO : w'.ownsRow 0 42 1 o ps.length (ptrs ps)
  ownU : w'.ownsRow 0 42 1 u qs.length (ptrs qs)
  ownX : w'.ownsRow 0 42 1 x qs.length (ptrs qs)
  live : ∀ p, p ∈ ps ∨ p ∈ qs → ∃ cs, w'.heap[p]? = some (.cells cs 48)
  kid : w'.heap[child]? = some (.cells (contCells ⟨#[]⟩ 0 (.slice none 0 0) (.slice none 0 0)) 48)
  other : ∀ p, p ∈ ps ∨ p ∈ qs → child ≠ p
  otherC : child ≠ C
  obj : w'.heap[O]? = some (.cells (oCells C inn) 66)
  stk : ∃ S', Stk w' r (n + 1) (n + 1 : Nat) S' T' t'
  top : 1 ≤ t'
  cells : ∀ i, i < 10 → w'.cell? ⟨T', (t' - 1) * 10 + i, none⟩ = (objCells (some ⟨child, 0, none⟩) inn ps.length)[i]?

theorem done_of {w w2 wr w' : World} {B C n : Nat} {inn : ByteArray} {cs : Array Value} {mk : Value → Array Value} {v o u x v' : Value} {ps qs S S' : List Nat} {T t T' t' child : Nat} (h : Par w w2 B C cs v o u x ps qs) (R : Rdy w2 wr n S T t)
    (hb : BornAt (wr.alloc (.cells (oCells C inn) 66)) w2.heap.size n S C mk v ps.length (ptrs ps) inn w' child v' S' T' t') :
    Done w w' B C w2.heap.size wr.heap.size n inn (mk v') v' o u x ps qs child T' t' := by
  have hsz : (wr.alloc (.cells (oCells C inn) 66)).heap.size = wr.heap.size + 1 := by simp
  have hs := R.size
  have hfr := hb.fresh
  have keep : ∀ k, k < w2.heap.size → k ≠ C → v.ownBlock ≠ some k → w'.heap[k]? = w2.heap[k]? := fun k hk hc hv => by
    rw [hb.block k (by omega) (fun hm => by have := R.mine k hm; omega) hc hv, Below.heap_alloc _ _ _ (by omega)]
    exact R.block k hk
  have hCl := (Array.getElem?_eq_some_iff.1 h.par).1
  have rk : ∀ {y : Value} {m : Nat} {ys : List Value}, w2.ownsRow 0 42 1 y m ys → Apart v y → w'.ownsRow 0 42 1 y m ys := fun hy ha => ownsRow_heap hy (fun g hg => keep g (row_lt hy hg).1 (fun e => row_ne hy h.par (by rw [hg, e])) (fun e => ha g e hg))
  have lv : ∀ p, p ∈ ps ∨ p ∈ qs → p < w2.heap.size ∧ ∃ cs, w'.heap[p]? = some (.cells cs 48) := fun p hp => by
    obtain ⟨c, hc⟩ := h.live p hp
    refine ⟨(Array.getElem?_eq_some_iff.1 hc).1, ?_⟩
    by_cases e : p = C
    · exact ⟨_, by rw [e]; exact hb.parent⟩
    · exact ⟨c, (keep p (Array.getElem?_eq_some_iff.1 hc).1 e (row_ne h.ownV hc)).trans hc⟩
  have hB := h.big
  have hC := h.hiC
  refine ⟨h.below.trans ⟨hb.os.trans R.os, hb.tape.trans R.tape, hb.output.trans R.output, by have := hb.size; omega, fun k hk => keep k (by omega) (by omega) (fun e => by have := h.hiV k e; omega)⟩, hb.parent, hb.own, rk h.ownO h.vo, rk h.ownU h.vu, rk h.ownX h.vx,
    fun p hp => (lv p hp).2, hb.lives, fun p hp => by have := (lv p hp).1; omega, by omega, ?_, ⟨S', hb.stk⟩, hb.top, hb.cells⟩
  rw [hb.block wr.heap.size (by omega) (fun hm => by have := R.stk.2.1 _ hm; omega) (by omega) (fun e => by have := (row_lt h.ownV e).1; omega)]
  exact heap_alloc_new wr _

theorem stk_obj {w2 wr : World} {n : Nat} {S : List Nat} {T t : Nat} (R : Rdy w2 wr n S T t) (o : Obj) : Stk (wr.alloc o) w2.heap.size n n S T t :=
  R.stk.blocks (fun k hk => Below.heap_alloc _ _ _ (R.stk.2.1 k hk)) (by simp)

theorem open_S {w w2 wr : World} {B C n m c : Nat} {a : Option Addr} {o u x : Value} {ps qs S : List Nat} {T t : Nat} (h : Par w w2 B C (contCells ⟨#[112, 97, 114, 101, 110, 116]⟩ 0 (.slice a m c) u) (.slice a m c) o u x ps qs) (hl : ps.length = m) (R : Rdy w2 wr n S T t) (h60 : n < 60) (hm : m ≤ 1000) :
    Calls Yba.prog 10 #[.pointer (some ⟨w2.heap.size, 0, none⟩), .pointer (some ⟨wr.heap.size, 0, none⟩)] (wr.alloc (.cells (oCells C ⟨#[115, 99, 111, 112, 101, 115]⟩) 66)) fun e w' => e = .returned (.tuple #[]) ∧
      ∃ child v' T' t', Done w w' B C w2.heap.size wr.heap.size n ⟨#[115, 99, 111, 112, 101, 115]⟩ (contCells ⟨#[112, 97, 114, 101, 110, 116]⟩ 0 v' u) v' o u x ps qs child T' t' := by
  subst hl
  have hs := R.size
  have hCl := (Array.getElem?_eq_some_iff.1 h.par).1
  have hold : ∀ k, k < w2.heap.size → (wr.alloc (.cells (oCells C ⟨#[115, 99, 111, 112, 101, 115]⟩) 66)).heap[k]? = w2.heap[k]? := fun k hk => (Below.heap_alloc _ _ _ (by omega)).trans (R.block k hk)
  refine (child_S (stk_obj R _) h60 C wr.heap.size _ a ps.length c u (ptrs ps) (heap_alloc_new wr _) ((hold C hCl).trans h.par) (ownsRow_heap h.ownV (fun g hg => hold g (row_lt h.ownV hg).1)) hm (fun hm => by have := R.stk.2.1 _ hm; omega) (fun hm => by have := R.mine _ hm; omega)
    (fun k hk e => by have := R.mine _ hk; have := (row_lt h.ownV e).1; omega)).mono ?_
  rintro e w' ⟨rfl, child, v', S', T', t', hb⟩
  exact ⟨rfl, child, v', T', t', done_of h R hb⟩

theorem open_T {w w2 wr : World} {B C n m c : Nat} {a : Option Addr} {o u x : Value} {ps qs S : List Nat} {T t : Nat} (inn : ByteArray) (hi : (inn.toList == [115, 99, 111, 112, 101, 115]) = false) (h : Par w w2 B C (contCells ⟨#[112, 97, 114, 101, 110, 116]⟩ 0 u (.slice a m c)) (.slice a m c) o u x ps qs) (hl : ps.length = m) (R : Rdy w2 wr n S T t) (h60 : n < 60) (hm : m ≤ 1000) :
    Calls Yba.prog 10 #[.pointer (some ⟨w2.heap.size, 0, none⟩), .pointer (some ⟨wr.heap.size, 0, none⟩)] (wr.alloc (.cells (oCells C inn) 66)) fun e w' => e = .returned (.tuple #[]) ∧
      ∃ child v' T' t', Done w w' B C w2.heap.size wr.heap.size n inn (contCells ⟨#[112, 97, 114, 101, 110, 116]⟩ 0 u v') v' o u x ps qs child T' t' := by
  subst hl
  have hs := R.size
  have hCl := (Array.getElem?_eq_some_iff.1 h.par).1
  have hold : ∀ k, k < w2.heap.size → (wr.alloc (.cells (oCells C inn) 66)).heap[k]? = w2.heap[k]? := fun k hk => (Below.heap_alloc _ _ _ (by omega)).trans (R.block k hk)
  refine (child_T (stk_obj R _) h60 C wr.heap.size _ inn hi a ps.length c u (ptrs ps) (heap_alloc_new wr _) ((hold C hCl).trans h.par) (ownsRow_heap h.ownV (fun g hg => hold g (row_lt h.ownV hg).1)) hm (fun hm => by have := R.stk.2.1 _ hm; omega) (fun hm => by have := R.mine _ hm; omega)
    (fun k hk e => by have := R.mine _ hk; have := (row_lt h.ownV e).1; omega)).mono ?_
  rintro e w' ⟨rfl, child, v', S', T', t', hb⟩
  exact ⟨rfl, child, v', T', t', done_of h R hb⟩

end Go.Proofs.Ybulkjwu
