/-
  The stack's invariant; grow keeps it.
-/
import Derived.Test.YbulkjwuPush
import Derived.Test.YbulkjwuStkE
import Derived.Test.YbulkjwuStkC
namespace Go.Proofs.Ybulkjwu
open Go.RowKit
set_option linter.unusedSimpArgs false
set_option linter.unusedVariables false

/-- The reader, as the law makes and uses it. -/
def rdr (first more : Value) (used d : Int) : Obj := .cells #[.slice none 0 0, .pointer none, first, more, .int .i64 used, .int .i64 d, .pointer none, .slice none 0 0] 60

/-- The stack of the reader at block r holds n objects (the depth reads d); S: the blocks that are its own; T, t: the row of the top chunk, and how many it holds. -/
def Stk (w : World) (r n : Nat) (d : Int) (S : List Nat) (T t : Nat) : Prop :=
  r ∈ S ∧ (∀ k ∈ S, k < w.heap.size) ∧
  ((n = 0 ∧ w.heap[r]? = some (rdr (.slice none 0 0) (.pointer none) 0 d)) ∨
   (1 ≤ n ∧ n ≤ 8 ∧ t = n ∧ T ∈ S ∧ T ≠ r ∧ w.heap[r]? = some (rdr (.slice (some ⟨T, 0, none⟩) n 8) (.pointer none) 0 d) ∧ ∃ cur, w.heap[T]? = some (.cells cur 66) ∧ cur.size = 80) ∨
   (∃ (F M R u c cap : Nat) (xs : List Value) (cur : Array Value), 1 ≤ u ∧ u ≤ 3 ∧ ((u = 1 ∧ cap = 16) ∨ (u = 2 ∧ cap = 32) ∨ (u = 3 ∧ cap = 64)) ∧ 1 ≤ t ∧ t ≤ cap ∧ n + 8 = cap + t ∧ M ∈ S ∧ R ∈ S ∧ T ∈ S ∧ M ≠ r ∧ R ≠ r ∧ T ≠ r ∧ R ≠ M ∧ T ≠ M ∧ T ≠ R ∧
      w.heap[r]? = some (rdr (.slice (some ⟨F, 0, none⟩) 8 8) (.pointer (some ⟨M, 0, none⟩)) u d) ∧ w.heap[M]? = some (.cells #[.slice (some ⟨R, 0, none⟩) u c] 72) ∧
      w.ownsRow 0 50 1 (.slice (some ⟨R, 0, none⟩) u c) u (xs ++ [.slice (some ⟨T, 0, none⟩) t cap]) ∧ w.heap[T]? = some (.cells cur 66) ∧ cur.size = cap * 10))

theorem ownsRow_heap {w w' : World} {B : Nat} {e : TypeId} {v : Value} {n : Nat} {xs : List Value} (h : w.ownsRow B e 1 v n xs) (hh : ∀ g, v.ownBlock = some g → w'.heap[g]? = w.heap[g]?) : w'.ownsRow B e 1 v n xs := by
  rcases h.2 with h2 | ⟨g, cap, cur, rfl, hb, hg, hrest⟩
  · exact ⟨h.1, .inl h2⟩
  · exact ⟨h.1, .inr ⟨g, cap, cur, rfl, hb, (hh g rfl).trans hg, hrest⟩⟩

theorem Stk.heap {w w' : World} {r n : Nat} {d : Int} {S : List Nat} {T t : Nat} (h : Stk w r n d S T t) (hh : w'.heap = w.heap) : Stk w' r n d S T t := by
  unfold Stk at h ⊢
  rw [hh]
  obtain ⟨a, b, h⟩ := h
  refine ⟨a, b, ?_⟩
  rcases h with h | h | ⟨F, M, R, u, c, cap, xs, cur, h⟩
  · exact .inl h
  · exact .inr (.inl h)
  · refine .inr (.inr ⟨F, M, R, u, c, cap, xs, cur, ?_⟩)
    obtain ⟨h1, h2, h3, h4, h5, h6, h7, h8, h9, h10, h11, h12, h13, h14, h15, h16, h17, h18, h19, h20⟩ := h
    exact ⟨h1, h2, h3, h4, h5, h6, h7, h8, h9, h10, h11, h12, h13, h14, h15, h16, h17, ownsRow_heap h18 (fun g _ => by rw [hh]), h19, h20⟩

/-- What stands outside the stack's own blocks is as it was. -/
structure Frame (w w' : World) (S S' : List Nat) : Prop where
  block : ∀ k, k < w.heap.size → k ∉ S → w'.heap[k]? = w.heap[k]?
  own : ∀ k ∈ S', k ∈ S ∨ w.heap.size ≤ k
  size : w.heap.size ≤ w'.heap.size
  os : w'.os = w.os
  tape : w'.tape = w.tape
  output : w'.output = w.output

theorem Frame.trans {w w' w'' : World} {S S' S'' : List Nat} (h : Frame w w' S S') (k : Frame w' w'' S' S'') : Frame w w'' S S'' :=
  ⟨fun j hj hn => (k.block j (Nat.lt_of_lt_of_le hj h.size) (fun hm => by rcases h.own j hm with h1 | h1; exact hn h1; omega)).trans (h.block j hj hn),
   fun j hj => by rcases k.own j hj with h1 | h1; exact h.own j h1; exact .inr (Nat.le_trans h.size h1), Nat.le_trans h.size k.size, k.os.trans h.os, k.tape.trans h.tape, k.output.trans h.output⟩

/-- What grow is for: one more place on top, at ⟨T, q⟩. -/
def Grows (w : World) (r n : Nat) (d : Int) (S : List Nat) (w' : World) (T q : Nat) : Prop :=
  ∃ S' t', 1 ≤ t' ∧ q = (t' - 1) * 10 ∧ Stk w' r (n + 1) d S' T t' ∧ Frame w w' S S'

theorem sc_same {w : World} {g : Nat} {cs : Array Value} {t : TypeId} (i : Nat) (v : Value) (hg : w.heap[g]? = some (.cells cs t (0, 0))) : (w.setCell ⟨g, i, none⟩ v).heap[g]? = some (.cells (cs.setIfInBounds i v) t (0, 0)) :=
  heap_setCell_same w g i cs t v hg
theorem sc_other {w : World} {g k : Nat} (i : Nat) (v : Value) (h : k ≠ g) : (w.setCell ⟨g, i, none⟩ v).heap[k]? = w.heap[k]? := Below.heap_setCell w ⟨g, i, none⟩ v k h
theorem sc_size (w : World) (a : Addr) (v : Value) : (w.setCell a v).heap.size = w.heap.size := by simp [World.setCell]

theorem rdr_first (f m v : Value) (u d : Int) : ∃ cs, rdr f m u d = .cells cs 60 (0, 0) ∧ Obj.cells (cs.setIfInBounds 2 v) 60 (0, 0) = rdr v m u d ∧ Obj.cells (cs.setIfInBounds 3 v) 60 (0, 0) = rdr f v u d ∧ cs[2]? = some f ∧ cs[3]? = some m ∧ cs[4]? = some (.int .i64 u) ∧ cs[5]? = some (.int .i64 d) :=
  ⟨_, rfl, rfl, rfl, rfl, rfl, rfl, rfl⟩
theorem rdr_used (f m : Value) (u d u' : Int) : ∃ cs, rdr f m u d = .cells cs 60 (0, 0) ∧ Obj.cells (cs.setIfInBounds 4 (.int .i64 u')) 60 (0, 0) = rdr f m u' d ∧ Obj.cells (cs.setIfInBounds 5 (.int .i64 u')) 60 (0, 0) = rdr f m u u' :=
  ⟨_, rfl, rfl, rfl⟩

theorem set_first {w : World} {r : Nat} {f m : Value} {u d : Int} (h : w.heap[r]? = some (rdr f m u d)) (v : Value) : (w.setCell ⟨r, 2, none⟩ v).heap[r]? = some (rdr v m u d) := sc_same 2 v h
theorem set_more {w : World} {r : Nat} {f m : Value} {u d : Int} (h : w.heap[r]? = some (rdr f m u d)) (v : Value) : (w.setCell ⟨r, 3, none⟩ v).heap[r]? = some (rdr f v u d) := sc_same 3 v h
theorem set_used {w : World} {r : Nat} {f m : Value} {u d : Int} (h : w.heap[r]? = some (rdr f m u d)) (u' : Int) : (w.setCell ⟨r, 4, none⟩ (.int .i64 u')).heap[r]? = some (rdr f m u' d) := sc_same 4 _ h
theorem set_depth {w : World} {r : Nat} {f m : Value} {u d : Int} (h : w.heap[r]? = some (rdr f m u d)) (d' : Int) : (w.setCell ⟨r, 5, none⟩ (.int .i64 d')).heap[r]? = some (rdr f m u d') := sc_same 5 _ h
theorem get_rdr {w : World} {r : Nat} {f m : Value} {u d : Int} (h : w.heap[r]? = some (rdr f m u d)) : w.cell? ⟨r, 2, none⟩ = some f ∧ w.cell? ⟨r, 3, none⟩ = some m ∧ w.cell? ⟨r, 4, none⟩ = some (.int .i64 u) ∧ w.cell? ⟨r, 5, none⟩ = some (.int .i64 d) ∧ ∀ o, w.frozen? ⟨r, o, none⟩ = false :=
  ⟨cell_of_row _ _ 2 _ 60 (0, 0) h, cell_of_row _ _ 3 _ 60 (0, 0) h, cell_of_row _ _ 4 _ 60 (0, 0) h, cell_of_row _ _ 5 _ 60 (0, 0) h, fun o => frozen_of_row _ _ o _ 60 h⟩

theorem SameMem.symm {X Y : World} (h : SameMem X Y) : SameMem Y X := by
  unfold SameMem at h ⊢
  exact ⟨h.1.symm, h.2.1.symm, h.2.2.1.symm, h.2.2.2.symm⟩
theorem SameMem.heap {X Y : World} (h : SameMem X Y) : X.heap = Y.heap := by unfold SameMem at h; exact h.1
theorem SameMem.cell {X Y : World} (h : SameMem X Y) (a : Addr) : X.cell? a = Y.cell? a := World.cell?_of_block (by rw [h.heap])
theorem SameMem.frozen {X Y : World} (h : SameMem X Y) (a : Addr) : X.frozen? a = Y.frozen? a := World.frozen?_of_block (by rw [h.heap])
theorem SameMem.set {X Y : World} (h : SameMem X Y) (a : Addr) (v : Value) : SameMem (X.setCell a v) (Y.setCell a v) := by
  unfold SameMem at h ⊢
  exact ⟨by simp only [World.setCell, h.1], h.2.1, h.2.2.1, h.2.2.2⟩
theorem SameMem.trans {X Y Z : World} (h : SameMem X Y) (k : SameMem Y Z) : SameMem X Z := by
  unfold SameMem at h k ⊢
  exact ⟨h.1.trans k.1, h.2.1.trans k.2.1, h.2.2.1.trans k.2.2.1, h.2.2.2.trans k.2.2.2⟩
theorem SameMem.eqs {X Y : World} (h : SameMem X Y) : X.os = Y.os ∧ X.tape = Y.tape ∧ X.output = Y.output := by unfold SameMem at h; exact h.2

/-- The end of each way: the world behind is, but for draws, one of which all is told. -/
theorem grows_of {w W w' : World} {r n : Nat} {d : Int} {S : List Nat} {T q : Nat} (hm : SameMem w' W) (h : Grows w r n d S W T q) : Grows w r n d S w' T q := by
  obtain ⟨S', t', h1, h2, h3, h4⟩ := h
  obtain ⟨e1, e2, e3⟩ := hm.eqs
  exact ⟨S', t', h1, h2, h3.heap hm.heap, ⟨fun k hk hn => by rw [hm.heap]; exact h4.block k hk hn, h4.own, by rw [hm.heap]; exact h4.size, e1.trans h4.os, e2.trans h4.tape, e3.trans h4.output⟩⟩

/-- grow, nothing on the stack. -/
theorem grow_0 {w : World} {r : Nat} {d : Int} {S : List Nat} {T t : Nat} (hS : Stk w r 0 d S T t) :
    Calls Yba.prog 15 #[.pointer (some ⟨r, 2, none⟩)] w fun e w' => ∃ T q, e = .returned (.pointer (some ⟨T, q, none⟩)) ∧ Grows w r 0 d S w' T q := by
  obtain ⟨hr, hlt, h⟩ := hS
  rcases h with ⟨_, hR⟩ | ⟨h1, _⟩ | ⟨F, M, R, u, c, cap, xs, cur, hu1, hu3, hcap, ht1, ht2, hn, _⟩
  · obtain ⟨c2, c3, c4, c5, fr⟩ := get_rdr hR
    have hrl := hlt r hr
    have hsz := sc_size w ⟨r, 2, none⟩ (.slice (some ⟨w.heap.size, 0, none⟩) 0 8)
    have hRW : ((w.setCell ⟨r, 2, none⟩ (.slice (some ⟨w.heap.size, 0, none⟩) 0 8)).alloc (.cells (chunkCells 8) 66)).heap[r]? = some (rdr (.slice (some ⟨w.heap.size, 0, none⟩) 0 8) (.pointer none) 0 d) := by
      rw [Below.heap_alloc _ _ _ (by omega)]
      exact set_first hR _
    have hTW : ((w.setCell ⟨r, 2, none⟩ (.slice (some ⟨w.heap.size, 0, none⟩) 0 8)).alloc (.cells (chunkCells 8) 66)).heap[w.heap.size]? = some (.cells (chunkCells 8) 66) := by
      have := heap_alloc_new (w.setCell ⟨r, 2, none⟩ (.slice (some ⟨w.heap.size, 0, none⟩) 0 8)) (.cells (chunkCells 8) 66)
      rwa [hsz] at this
    have hOW : ∀ k, k < w.heap.size → k ≠ r → ((w.setCell ⟨r, 2, none⟩ (.slice (some ⟨w.heap.size, 0, none⟩) 0 8)).alloc (.cells (chunkCells 8) 66)).heap[k]? = w.heap[k]? := fun k hk hne => by
      rw [Below.heap_alloc _ _ _ (by omega), sc_other _ _ hne]
    have hSW : ((w.setCell ⟨r, 2, none⟩ (.slice (some ⟨w.heap.size, 0, none⟩) 0 8)).alloc (.cells (chunkCells 8) 66)).heap.size = w.heap.size + 1 := by rw [World.size_alloc, hsz]
    have heO : ((w.setCell ⟨r, 2, none⟩ (.slice (some ⟨w.heap.size, 0, none⟩) 0 8)).alloc (.cells (chunkCells 8) 66)).os = w.os ∧ ((w.setCell ⟨r, 2, none⟩ (.slice (some ⟨w.heap.size, 0, none⟩) 0 8)).alloc (.cells (chunkCells 8) 66)).tape = w.tape ∧ ((w.setCell ⟨r, 2, none⟩ (.slice (some ⟨w.heap.size, 0, none⟩) 0 8)).alloc (.cells (chunkCells 8) 66)).output = w.output := ⟨rfl, rfl, rfl⟩
    generalize hW : ((w.setCell ⟨r, 2, none⟩ (.slice (some ⟨w.heap.size, 0, none⟩) 0 8)).alloc (.cells (chunkCells 8) 66)) = W at hRW hTW hOW hSW heO
    refine (grow_next r 2 r 2 0 none w (fun w1 Pb Po T cap => Pb = r ∧ Po = 2 ∧ T = w.heap.size ∧ cap = 8 ∧ SameMem w1 W)
      (top_o0 r 2 w c4) c2 (by omega) (fun k => (next_A r 2 (w.drewN k) hrl c2 (fr 2)).mono fun e w1 he => ⟨r, 2, w.heap.size, 8, he.1, rfl, rfl, rfl, rfl, by rw [he.2, ← hW]; unfold SameMem; exact ⟨rfl, rfl, rfl, rfl⟩⟩) ?_).mono ?_
    · rintro w1 Pb Po T cap ⟨rfl, rfl, rfl, rfl, hm⟩
      obtain ⟨d2, _, _, _, df⟩ := get_rdr hRW
      exact ⟨by rw [hm.cell]; exact d2, by omega, by omega, by rw [hm.frozen]; exact df _⟩
    · rintro e w' ⟨w1, Pb, Po, T, cap, m, ⟨rfl, rfl, rfl, rfl, hm⟩, rfl, rfl⟩
      refine ⟨w.heap.size, 0, rfl, grows_of ((SameMem.drewN _ m).trans (hm.set _ _)) ?_⟩
      have hne : w.heap.size ≠ Pb := by omega
      refine ⟨w.heap.size :: S, 1, by omega, rfl, ⟨by simp [hr], fun k hk => ?_, .inr (.inl ⟨by omega, by omega, rfl, by simp, hne, set_first hRW _, ⟨chunkCells 8, ?_, chunkCells_size 8⟩⟩)⟩, ⟨fun k hk hn => ?_, fun k hk => ?_, by rw [sc_size, hSW]; omega, heO.1, heO.2.1, heO.2.2⟩⟩
      · rw [sc_size, hSW]
        rcases List.mem_cons.1 hk with rfl | hk
        · omega
        · have := hlt k hk; omega
      · rw [sc_other _ _ hne]; exact hTW
      · have hkr : k ≠ Pb := fun e => hn (by rw [e]; exact hr)
        rw [sc_other _ _ hkr]
        exact hOW k hk hkr
      · rcases List.mem_cons.1 hk with rfl | hk
        · exact .inr (Nat.le_refl _)
        · exact .inl hk
  · omega
  · omega

/-- grow within the first chunk. -/
theorem grow_1 {w : World} {r n : Nat} {d : Int} {S : List Nat} {T t : Nat} (hS : Stk w r n d S T t) (h1 : 1 ≤ n) (h7 : n ≤ 7) :
    Calls Yba.prog 15 #[.pointer (some ⟨r, 2, none⟩)] w fun e w' => ∃ T q, e = .returned (.pointer (some ⟨T, q, none⟩)) ∧ Grows w r n d S w' T q := by
  obtain ⟨hr, hlt, h⟩ := hS
  rcases h with ⟨h0, _⟩ | ⟨_, _, rfl, hTS, hTr, hR, cur, hT, hcur⟩ | ⟨F, M, R, u, c, cap, xs, cur, hu1, hu3, hcap, ht1, ht2, hn, _⟩
  · omega
  · obtain ⟨c2, c3, c4, c5, fr⟩ := get_rdr hR
    refine (grow_room r 2 r 2 T t 8 w (top_o0 r 2 w c4) c2 (by omega) (by omega) (fr 2)).mono ?_
    rintro e w' ⟨rfl, m, rfl⟩
    refine ⟨T, t * 10, rfl, grows_of (SameMem.drewN _ m) ⟨S, t + 1, by omega, by simp, ⟨hr, fun k hk => by rw [sc_size]; exact hlt k hk, .inr (.inl ⟨by omega, by omega, rfl, hTS, hTr, set_first hR _, ⟨cur, by rw [sc_other _ _ hTr]; exact hT, hcur⟩⟩)⟩,
      ⟨fun k hk hn => sc_other _ _ (fun e => hn (by rw [e]; exact hr)), fun k hk => .inl hk, by rw [sc_size]; omega, rfl, rfl, rfl⟩⟩⟩
  · omega

theorem own_set {w : World} {R u c : Nat} {xs : List Value} {x y : Value} (h : w.ownsRow 0 50 1 (.slice (some ⟨R, 0, none⟩) u c) u (xs ++ [x])) : (w.setCell ⟨R, u - 1, none⟩ y).ownsRow 0 50 1 (.slice (some ⟨R, 0, none⟩) u c) u (xs ++ [y]) := by
  obtain ⟨h1, h2⟩ := h
  refine ⟨by simpa using h1, ?_⟩
  rcases h2 with ⟨h2, _⟩ | ⟨g, cap, cur, hv, hb, hg, hn, hm, hcs, htake⟩
  · cases h2
  · simp only [Value.slice.injEq, Option.some.injEq, Addr.mk.injEq] at hv
    obtain ⟨⟨rfl, _⟩, _, rfl⟩ := hv
    have hl : xs.length + 1 = u := by simpa using h1
    refine .inr ⟨R, c, _, rfl, hb, sc_same _ _ hg, hn, hm, by simpa using hcs, ?_⟩
    rw [Nat.mul_one] at htake ⊢
    have e : u - 1 = xs.length := by omega
    rw [e, Array.toList_setIfInBounds, List.take_set, htake, List.set_append_right _ _ (Nat.le_refl _)]
    simp

theorem own_last {w : World} {R u c : Nat} {xs : List Value} {x : Value} (h : w.ownsRow 0 50 1 (.slice (some ⟨R, 0, none⟩) u c) u (xs ++ [x])) : w.cell? ⟨R, u - 1, none⟩ = some x ∧ w.frozen? ⟨R, u - 1, none⟩ = false ∧ R < w.heap.size ∧ u ≤ c := by
  obtain ⟨h1, h2⟩ := h
  have hl : xs.length + 1 = u := by simpa using h1
  rcases h2 with ⟨h2, _⟩ | ⟨g, cap, cur, hv, hb, hg, hn, hm, hcs, htake⟩
  · cases h2
  · simp only [Value.slice.injEq, Option.some.injEq, Addr.mk.injEq] at hv
    obtain ⟨⟨rfl, _⟩, _, rfl⟩ := hv
    refine ⟨?_, frozen_of_row _ _ _ _ 50 hg, (Array.getElem?_eq_some_iff.1 hg).1, hn⟩
    rw [cell_of_row _ _ _ _ 50 (0, 0) hg]
    have e : u - 1 = xs.length := by omega
    rw [Nat.mul_one] at htake
    have : (cur.toList.take u)[xs.length]? = some x := by rw [htake]; simp
    rw [List.getElem?_take] at this
    rw [e]
    split at this
    · simpa using this
    · cases this

/-- grow within a later chunk. -/
theorem grow_2 {w : World} {r n : Nat} {d : Int} {S : List Nat} {T t : Nat} (hS : Stk w r n d S T t) (h9 : 9 ≤ n) (hne : n ≠ 24) (hne2 : n ≠ 56) (h60 : n < 60) :
    Calls Yba.prog 15 #[.pointer (some ⟨r, 2, none⟩)] w fun e w' => ∃ T q, e = .returned (.pointer (some ⟨T, q, none⟩)) ∧ Grows w r n d S w' T q := by
  obtain ⟨hr, hlt, h⟩ := hS
  rcases h with ⟨h0, _⟩ | ⟨_, h8, _⟩ | ⟨F, M, R, u, c, cap, xs, cur, hu1, hu3, hcap, ht1, ht2, hn, hMS, hRS, hTS, hMr, hRr, hTr, hRM, hTM, hTR, hR, hM, hown, hT, hcur⟩
  · omega
  · omega
  · obtain ⟨c2, c3, c4, c5, fr⟩ := get_rdr hR
    obtain ⟨oc, of, oR, ouc⟩ := own_last hown
    have hMc : w.cell? ⟨M, 0, none⟩ = some (.slice (some ⟨R, 0, none⟩) u c) := cell_of_row _ _ 0 _ 72 (0, 0) hM
    refine (grow_room r 2 R (u - 1) T t cap w (top_ou r 2 M R u c w hu1 (by omega) c4 c3 hMc) oc (by omega) (by omega) of).mono ?_
    rintro e w' ⟨rfl, m, rfl⟩
    refine ⟨T, t * 10, rfl, grows_of (SameMem.drewN _ m) ⟨S, t + 1, by omega, by simp, ⟨hr, fun k hk => by rw [sc_size]; exact hlt k hk, .inr (.inr ⟨F, M, R, u, c, cap, xs, cur, hu1, hu3, hcap, by omega, by omega, by omega, hMS, hRS, hTS, hMr, hRr, hTr, hRM, hTM, hTR, ?_, ?_, own_set hown, ?_, hcur⟩)⟩,
      ⟨fun k hk hn => sc_other _ _ (fun e => hn (by rw [e]; exact hRS)), fun k hk => .inl hk, by rw [sc_size]; omega, rfl, rfl, rfl⟩⟩⟩
    · rw [sc_other _ _ (fun e => hRr e.symm)]; exact hR
    · rw [sc_other _ _ (fun e => hRM e.symm)]; exact hM
    · rw [sc_other _ _ hTR]; exact hT

/-- Where the list of chunks lies behind the append, and its last chunk. -/
theorem app2_facts {w W1 : World} {r M R u c g cp n : Nat} {ys : List Value} (hA : App2 w W1 R u c g cp n ys) (hrl : r < w.heap.size) (hMl : M < w.heap.size) (hRr : R ≠ r) (hRM : R ≠ M) :
    g ≠ r ∧ g ≠ M ∧ g ≠ w.heap.size ∧
    ((W1.setCell ⟨M, 0, none⟩ (.slice (some ⟨g, 0, none⟩) (u + 1) cp)).setCell ⟨r, 4, none⟩ (.int .i64 ((u : Int) + 1))).ownsRow 0 50 1 (.slice (some ⟨g, 0, none⟩) (u + 1) cp) (u + 1) (ys ++ [.slice (some ⟨w.heap.size, 0, none⟩) 0 n]) ∧
    (((W1.setCell ⟨M, 0, none⟩ (.slice (some ⟨g, 0, none⟩) (u + 1) cp)).setCell ⟨r, 4, none⟩ (.int .i64 ((u : Int) + 1))).cell? ⟨g, u, none⟩ = some (.slice (some ⟨w.heap.size, 0, none⟩) 0 n) ∧
      ((W1.setCell ⟨M, 0, none⟩ (.slice (some ⟨g, 0, none⟩) (u + 1) cp)).setCell ⟨r, 4, none⟩ (.int .i64 ((u : Int) + 1))).frozen? ⟨g, u, none⟩ = false ∧
      g < ((W1.setCell ⟨M, 0, none⟩ (.slice (some ⟨g, 0, none⟩) (u + 1) cp)).setCell ⟨r, 4, none⟩ (.int .i64 ((u : Int) + 1))).heap.size ∧ u + 1 ≤ cp) := by
  have h1 : g ≠ r := by rcases hA.lies with e | e; rw [e]; exact hRr; omega
  have h2 : g ≠ M := by rcases hA.lies with e | e; rw [e]; exact hRM; omega
  have h3 : g ≠ w.heap.size := by
    intro e
    rcases hA.own.2 with ⟨h, _⟩ | ⟨g', cap, cur, hv, hb, hg, _⟩
    · cases h
    · simp only [Value.slice.injEq, Option.some.injEq, Addr.mk.injEq] at hv
      obtain ⟨⟨rfl, _⟩, _⟩ := hv
      have := hA.row
      rw [← e, hg] at this
      simp at this
  have h4 : ((W1.setCell ⟨M, 0, none⟩ (.slice (some ⟨g, 0, none⟩) (u + 1) cp)).setCell ⟨r, 4, none⟩ (.int .i64 ((u : Int) + 1))).ownsRow 0 50 1 (.slice (some ⟨g, 0, none⟩) (u + 1) cp) (u + 1) (ys ++ [.slice (some ⟨w.heap.size, 0, none⟩) 0 n]) :=
    ownsRow_heap hA.own (fun k hk => by
      simp [Value.ownBlock] at hk
      subst hk
      rw [sc_other _ _ h1, sc_other _ _ h2])
  exact ⟨h1, h2, h3, h4, own_last (u := u + 1) h4⟩

/-- grow, all chunks full, some made beyond the first. -/
theorem grow_3 {w : World} {r n : Nat} {d : Int} {S : List Nat} {T t : Nat} (hS : Stk w r n d S T t) (h9 : 9 ≤ n) (hor : n = 24 ∨ n = 56) :
    Calls Yba.prog 15 #[.pointer (some ⟨r, 2, none⟩)] w fun e w' => ∃ T q, e = .returned (.pointer (some ⟨T, q, none⟩)) ∧ Grows w r n d S w' T q := by
  obtain ⟨hr, hlt, h⟩ := hS
  rcases h with ⟨h0, _⟩ | ⟨_, h8, _⟩ | ⟨F, M, R, u, c, cap, xs, cur, hu1, hu3, hcap, ht1, ht2, hn, hMS, hRS, hTS, hMr, hRr, hTr, hRM, hTM, hTR, hR, hM, hown, hT, hcur⟩
  · omega
  · omega
  · have htc : t = cap := by omega
    subst htc
    obtain ⟨c2, c3, c4, c5, fr⟩ := get_rdr hR
    obtain ⟨oc, of, oR, ouc⟩ := own_last hown
    have hMc : w.cell? ⟨M, 0, none⟩ = some (.slice (some ⟨R, 0, none⟩) u c) := cell_of_row _ _ 0 _ 72 (0, 0) hM
    have hMf : w.frozen? ⟨M, 0, none⟩ = false := frozen_of_row _ _ 0 _ 72 hM
    have hrl := hlt r hr
    have hMl := hlt M hMS
    refine (grow_next r 2 R (u - 1) t (some ⟨T, 0, none⟩) w (fun w1 Pb Po T' cap' => ∃ W1 g cp, App2 w W1 R u c g cp (2 * t) (xs ++ [.slice (some ⟨T, 0, none⟩) t t]) ∧ Pb = g ∧ Po = u ∧ T' = w.heap.size ∧ cap' = 2 * t ∧
        SameMem w1 ((W1.setCell ⟨M, 0, none⟩ (.slice (some ⟨g, 0, none⟩) (u + 1) cp)).setCell ⟨r, 4, none⟩ (.int .i64 ((u : Int) + 1))))
      (top_ou r 2 M R u c w hu1 (by omega) c4 c3 hMc) oc (by omega) (fun k => (next_E r 2 M R u c t (some ⟨T, 0, none⟩) t _ (w.drewN k) hrl oR hMl hu1 (by omega) (by omega) (by omega) (fun e => hMr e.symm) hRr hRM (some ⟨F, 0, none⟩) 8 8 (by omega) c2 c3 c4 hMc hown oc fr hMf).mono
        fun e w1 he => by
          obtain ⟨W1, g, cp, m, hA, e1, e2⟩ := he
          exact ⟨g, u, w.heap.size, 2 * t, e1, W1, g, cp, hA.shift ⟨rfl, rfl, rfl, rfl⟩, rfl, rfl, rfl, rfl, by rw [e2]; exact SameMem.drewN _ m⟩) ?_).mono ?_
    · rintro w1 Pb Po T' cap' ⟨W1, g, cp, hA, rfl, rfl, rfl, rfl, hm⟩
      obtain ⟨p1, p2, p3, p4, p5⟩ := app2_facts hA hrl hMl hRr hRM
      exact ⟨by rw [hm.cell]; exact p5.1, by omega, by omega, by rw [hm.frozen]; exact p5.2.1⟩
    · rintro e w' ⟨w1, Pb, Po, T', cap', m, ⟨W1, g, cp, hA, rfl, rfl, rfl, rfl, hm⟩, rfl, rfl⟩
      obtain ⟨p1, p2, p3, p4, p5⟩ := app2_facts hA hrl hMl hRr hRM
      refine ⟨w.heap.size, 0, rfl, grows_of ((SameMem.drewN _ m).trans (hm.set _ _)) ?_⟩
      have hRl := hlt R hRS
      have hs := hA.size
      have hb := hA.block
      have z1 := sc_size W1 ⟨M, 0, none⟩ (.slice (some ⟨Pb, 0, none⟩) (Po + 1) cp)
      have z2 := sc_size (W1.setCell ⟨M, 0, none⟩ (.slice (some ⟨Pb, 0, none⟩) (Po + 1) cp)) ⟨r, 4, none⟩ (.int .i64 ((Po : Int) + 1))
      have hrM : r ≠ M := fun e => hMr e.symm
      have hMg : M ≠ Pb := fun e => p2 e.symm
      have hrg : r ≠ Pb := fun e => p1 e.symm
      have hNr : w.heap.size ≠ r := by omega
      have hNM : w.heap.size ≠ M := by omega
      have hNg : w.heap.size ≠ Pb := fun e => p3 e.symm
      have hgl := p5.2.2.1
      have e1 : ((W1.setCell ⟨M, 0, none⟩ (.slice (some ⟨Pb, 0, none⟩) (Po + 1) cp)).setCell ⟨r, 4, none⟩ (.int .i64 ((Po : Int) + 1))).heap[r]? = some (rdr (.slice (some ⟨F, 0, none⟩) 8 8) (.pointer (some ⟨M, 0, none⟩)) ((Po : Int) + 1) d) := by
        refine set_used (u := (Po : Int)) ?_ _
        rw [sc_other _ _ hrM, hb r hrl (fun e => hRr e.symm)]
        exact hR
      have e2 : ((W1.setCell ⟨M, 0, none⟩ (.slice (some ⟨Pb, 0, none⟩) (Po + 1) cp)).setCell ⟨r, 4, none⟩ (.int .i64 ((Po : Int) + 1))).heap[M]? = some (.cells #[.slice (some ⟨Pb, 0, none⟩) (Po + 1) cp] 72) := by
        rw [sc_other _ _ hMr]
        exact sc_same 0 _ ((hb M hMl (fun e => hRM e.symm)).trans hM)
      refine ⟨w.heap.size :: Pb :: S, 1, by omega, rfl, ⟨by simp [hr], fun k hk => ?_, .inr (.inr ⟨F, M, Pb, Po + 1, cp, 2 * t, _, chunkCells (2 * t), by omega, by omega, by omega, by omega, by omega, by omega, by simp [hMS], by simp, by simp, hMr, p1, hNr, p2, hNM, hNg, ?_, ?_, own_set (u := Po + 1) p4, ?_, chunkCells_size _⟩)⟩,
        ⟨fun k hk hn => ?_, fun k hk => ?_, ?_, hA.os, hA.tape, hA.output⟩⟩
      · rw [sc_size, z2, z1]
        rcases List.mem_cons.1 hk with rfl | hk
        · omega
        · rcases List.mem_cons.1 hk with rfl | hk
          · rw [z2, z1] at hgl; exact hgl
          · have := hlt k hk; omega
      · rw [sc_other _ _ hrg]; exact e1
      · rw [sc_other _ _ hMg]; exact e2
      · rw [sc_other _ _ hNg, sc_other _ _ hNr, sc_other _ _ hNM]; exact hA.row
      · have k1 : k ≠ r := fun e => hn (by rw [e]; exact hr)
        have k2 : k ≠ M := fun e => hn (by rw [e]; exact hMS)
        have k3 : k ≠ R := fun e => hn (by rw [e]; exact hRS)
        have k4 : k ≠ Pb := by rcases hA.lies with e | e; rw [e]; exact k3; omega
        rw [sc_other _ _ k4, sc_other _ _ k1, sc_other _ _ k2]
        exact hb k hk k3
      · rcases List.mem_cons.1 hk with rfl | hk
        · exact .inr (Nat.le_refl _)
        · rcases List.mem_cons.1 hk with rfl | hk
          · rcases hA.lies with e | e
            · exact .inl (by rw [e]; exact hRS)
            · exact .inr e
          · exact .inl hk
      · rw [sc_size, z2, z1]; omega

end Go.Proofs.Ybulkjwu
