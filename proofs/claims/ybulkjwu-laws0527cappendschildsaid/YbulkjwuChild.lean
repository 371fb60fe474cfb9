/-
  openChild: what it leaves.
-/
import Derived.Test.YbulkjwuApp42
namespace Go.Proofs.Ybulkjwu
open Go.RowKit
set_option linter.unusedSimpArgs false
set_option linter.unusedVariables false

/-- The open object that openChild is given. -/
def oCells (C : Nat) (inn : ByteArray) : Array Value := #[.pointer (some ⟨C, 0, none⟩), .string ⟨#[]⟩, .int .i64 0, .bool false, .bool false, .bool false, .bool false, .bool false, .bool false, .string inn]

/-- What openChild leaves: v: the list that grows, mk: the parent with that list. -/
structure BornAt (w : World) (r n : Nat) (S : List Nat) (C : Nat) (mk : Value → Array Value) (v : Value) (m : Nat) (xs : List Value) (inn : ByteArray) (w' : World) (child : Nat) (v' : Value) (S' : List Nat) (T' t' : Nat) : Prop where
  fresh : w.heap.size ≤ child
  lives : w'.heap[child]? = some (.cells (contCells ⟨#[]⟩ 0 (.slice none 0 0) (.slice none 0 0)) 48)
  parent : w'.heap[C]? = some (.cells (mk v') 48)
  own : w'.ownsRow 0 42 1 v' (m + 1) (xs ++ [.pointer (some ⟨child, 0, none⟩)])
  lies : v'.ownBlock = v.ownBlock ∨ ∃ g, v'.ownBlock = some g ∧ w.heap.size ≤ g
  top : 1 ≤ t'
  stk : Stk w' r (n + 1) (n + 1 : Nat) S' T' t'
  cells : ∀ i, i < 10 → w'.cell? ⟨T', (t' - 1) * 10 + i, none⟩ = (objCells (some ⟨child, 0, none⟩) inn m)[i]?
  mine : ∀ k ∈ S', k ∈ S ∨ w.heap.size ≤ k
  block : ∀ k, k < w.heap.size → k ∉ S → k ≠ C → v.ownBlock ≠ some k → w'.heap[k]? = w.heap[k]?
  size : w.heap.size ≤ w'.heap.size
  os : w'.os = w.os
  tape : w'.tape = w.tape
  output : w'.output = w.output

theorem born_of {w X w' : World} {r n : Nat} {S : List Nat} {C : Nat} {mk : Value → Array Value} {v v' : Value} {m : Nat} {xs : List Value} {inn : ByteArray}
    (hlt : ∀ k ∈ S, k < w.heap.size) (hC : C < w.heap.size) (hCS : C ∉ S) (hvS : ∀ k ∈ S, v.ownBlock ≠ some k)
    (hb : ∀ k, k < w.heap.size → k ≠ C → v.ownBlock ≠ some k → X.heap[k]? = w.heap[k]?) (hX : X.heap[w.heap.size]? = some (.cells (contCells ⟨#[]⟩ 0 (.slice none 0 0) (.slice none 0 0)) 48))
    (hP : X.heap[C]? = some (.cells (mk v') 48)) (hown : X.ownsRow 0 42 1 v' (m + 1) (xs ++ [.pointer (some ⟨w.heap.size, 0, none⟩)])) (hl : v'.ownBlock = v.ownBlock ∨ ∃ g, v'.ownBlock = some g ∧ w.heap.size ≤ g)
    (hs : w.heap.size + 1 ≤ X.heap.size) (ho : X.os = w.os ∧ X.tape = w.tape ∧ X.output = w.output) (h : Pushed X r n (n + 1 : Nat) S (objCells (some ⟨w.heap.size, 0, none⟩) inn m) w') :
    ∃ S' T' t', BornAt w r n S C mk v m xs inn w' w.heap.size v' S' T' t' := by
  obtain ⟨S', T', t', h1, h2, h3, h4⟩ := h
  have hnS : w.heap.size ∉ S := fun hm => by have := hlt _ hm; omega
  have hgS : ∀ g, v'.ownBlock = some g → g ∉ S := by
    intro g hg hm
    rcases hl with h | ⟨g', h, hge⟩
    · exact hvS g hm (h ▸ hg)
    · rw [hg] at h
      injection h with h
      have := hlt g hm
      omega
  have hgl : ∀ g, v'.ownBlock = some g → g < X.heap.size := by
    intro g hg
    rcases hown.2 with ⟨rfl, _⟩ | ⟨q, c, cur, rfl, _, hq, _⟩
    · cases hg
    · cases hg
      exact (Array.getElem?_eq_some_iff.1 hq).1
  exact ⟨S', T', t', Nat.le_refl _, (h4.block _ (by omega) hnS).trans hX, (h4.block _ (by omega) hCS).trans hP, ownsRow_heap hown (fun g hg => h4.block g (hgl g hg) (hgS g hg)), hl, h1, h2, h3,
    fun k hk => by rcases h4.own k hk with h | h; exact .inl h; exact .inr (by omega), fun k hk hn hc hv => (h4.block k (by omega) hn).trans (hb k hk hc hv), by have := h4.size; omega,
    h4.os.trans ho.1, h4.tape.trans ho.2.1, h4.output.trans ho.2.2⟩

/-- The world just ahead of the push. -/
theorem ahead_of {w W w1 : World} {C i : Nat} {v v' : Value} {m : Nat} {xs : List Value} {cs cs' : Array Value} (hC : w.heap[C]? = some (.cells cs 48)) (hcs : cs' = cs.setIfInBounds i v')
    (hvC : v.ownBlock ≠ some C) (hvl : ∀ g, v.ownBlock = some g → g < w.heap.size) {at' : Array Value}
    (hW : W = (w.alloc (.cells (contCells ⟨#[]⟩ 0 (.slice none 0 0) (.slice none 0 0)) 48)).alloc (.cells at' 63))
    (hA : App1 W w1 v v' m xs (.pointer (some ⟨w.heap.size, 0, none⟩))) :
    (∀ k, k < w.heap.size → k ≠ C → v.ownBlock ≠ some k → (w1.setCell ⟨C, i, none⟩ v').heap[k]? = w.heap[k]?) ∧ (w1.setCell ⟨C, i, none⟩ v').heap[w.heap.size]? = some (.cells (contCells ⟨#[]⟩ 0 (.slice none 0 0) (.slice none 0 0)) 48) ∧
    (w1.setCell ⟨C, i, none⟩ v').heap[C]? = some (.cells cs' 48) ∧ (w1.setCell ⟨C, i, none⟩ v').ownsRow 0 42 1 v' (m + 1) (xs ++ [.pointer (some ⟨w.heap.size, 0, none⟩)]) ∧
    (v'.ownBlock = v.ownBlock ∨ ∃ g, v'.ownBlock = some g ∧ w.heap.size ≤ g) ∧ w.heap.size + 1 ≤ (w1.setCell ⟨C, i, none⟩ v').heap.size ∧
    ((w1.setCell ⟨C, i, none⟩ v').os = w.os ∧ (w1.setCell ⟨C, i, none⟩ v').tape = w.tape ∧ (w1.setCell ⟨C, i, none⟩ v').output = w.output) ∧
    (w1.setCell ⟨C, i, none⟩ v').heap[w.heap.size + 1]? = some (.cells at' 63) := by
  have hCl := (Array.getElem?_eq_some_iff.1 hC).1
  have hsz : W.heap.size = w.heap.size + 2 := by rw [hW]; simp
  have hold : ∀ k, k < w.heap.size → W.heap[k]? = w.heap[k]? := fun k hk => by rw [hW, Below.heap_alloc _ _ _ (by simp; omega), Below.heap_alloc _ _ _ hk]
  have hch : W.heap[w.heap.size]? = some (.cells (contCells ⟨#[]⟩ 0 (.slice none 0 0) (.slice none 0 0)) 48) := by rw [hW, Below.heap_alloc _ _ _ (by simp)]; exact heap_alloc_new w _
  have hat : W.heap[w.heap.size + 1]? = some (.cells at' 63) := by
    rw [hW]
    have := heap_alloc_new (w.alloc (.cells (contCells ⟨#[]⟩ 0 (.slice none 0 0) (.slice none 0 0)) 48)) (.cells at' 63)
    rwa [World.size_alloc] at this
  have hvn : ∀ k, w.heap.size ≤ k → v.ownBlock ≠ some k := fun k hk e => by have := hvl k e; omega
  have hv'C : v'.ownBlock ≠ some C := by
    rcases hA.lies with h | ⟨g, h, hge⟩
    · rw [h]; exact hvC
    · rw [h]; intro e; injection e with e; omega
  have hsz1 := hA.size
  refine ⟨fun k hk hc hv => ?_, ?_, ?_, ?_, ?_, ?_, ⟨?_, ?_, ?_⟩, ?_⟩
  · rw [sc_other _ _ hc, hA.block k (by omega) hv]; exact hold k hk
  · rw [sc_other _ _ (by omega), hA.block _ (by omega) (hvn _ (by omega))]; exact hch
  · rw [hcs]; exact sc_same i v' ((hA.block C (by omega) hvC).trans ((hold C hCl).trans hC))
  · exact ownsRow_heap hA.own (fun g hg => sc_other _ _ (fun e => hv'C (by rw [hg, e])))
  · rcases hA.lies with h | ⟨g, h, hge⟩
    · exact .inl h
    · exact .inr ⟨g, h, by omega⟩
  · rw [sc_size]; omega
  · rw [show (w1.setCell ⟨C, i, none⟩ v').os = w1.os from rfl, hA.os, hW]; rfl
  · rw [show (w1.setCell ⟨C, i, none⟩ v').tape = w1.tape from rfl, hA.tape, hW]; rfl
  · rw [show (w1.setCell ⟨C, i, none⟩ v').output = w1.output from rfl, hA.output, hW]; rfl
  · rw [sc_other _ _ (by omega), hA.block _ (by omega) (hvn _ (by omega))]; exact hat

end Go.Proofs.Ybulkjwu
