/-
  The parent and its two lists, each beside its copy, as the law makes them.
-/
import Derived.Test.YbulkjwuApp42
namespace Go.Proofs.Ybulkjwu
open Go.RowKit
set_option linter.unusedSimpArgs false
set_option linter.unusedVariables false

def ptrs (ps : List Nat) : List Value := ps.map fun p => .pointer (some ⟨p, 0, none⟩)
theorem ptrs_snoc (ps : List Nat) (p : Nat) : ptrs (ps ++ [p]) = ptrs ps ++ [.pointer (some ⟨p, 0, none⟩)] := by simp [ptrs]
def Apart (v u : Value) : Prop := ∀ g, v.ownBlock = some g → u.ownBlock ≠ some g
theorem Apart.symm {v u : Value} (h : Apart v u) : Apart u v := fun g h1 h2 => h g h2 h1

theorem row_lt {w : World} {v : Value} {n : Nat} {xs : List Value} (h : w.ownsRow 0 42 1 v n xs) {g : Nat} (hg : v.ownBlock = some g) : g < w.heap.size ∧ ∃ cur, w.heap[g]? = some (.cells cur 42) := by
  rcases h.2 with ⟨rfl, _⟩ | ⟨q, c, cur, rfl, _, hq, _⟩
  · cases hg
  · cases hg
    exact ⟨(Array.getElem?_eq_some_iff.1 hq).1, cur, hq⟩
theorem row_ne {w : World} {v : Value} {n : Nat} {xs : List Value} (h : w.ownsRow 0 42 1 v n xs) {k : Nat} {cs : Array Value} (hk : w.heap[k]? = some (.cells cs 48)) : v.ownBlock ≠ some k := fun e => by
  obtain ⟨_, cur, hc⟩ := row_lt h e
  rw [hk] at hc
  simp at hc

theorem app_keep {w w' : World} {v v' u : Value} {n m : Nat} {xs ys : List Value} {x : Value} (hA : App1 w w' v v' n xs x) (hu : w.ownsRow 0 42 1 u m ys) (ha : Apart v u) : w'.ownsRow 0 42 1 u m ys ∧ Apart v' u := by
  refine ⟨ownsRow_heap hu (fun g hg => hA.block g (row_lt hu hg).1 (fun e => ha g e hg)), fun g hg hg' => ?_⟩
  rcases hA.lies with h | ⟨q, h, hge⟩
  · exact ha g (h ▸ hg) hg'
  · rw [hg] at h
    injection h with h
    have := (row_lt hu hg').1
    omega

/-- The parent at block C (cells cs), a list v with its copy o (the containers at ps), the other list u with its copy x (those at qs). -/
structure Par (w wr : World) (B C : Nat) (cs : Array Value) (v o u x : Value) (ps qs : List Nat) : Prop where
  below : Below B w wr
  hiC : B ≤ C
  par : wr.heap[C]? = some (.cells cs 48)
  ownV : wr.ownsRow 0 42 1 v ps.length (ptrs ps)
  ownO : wr.ownsRow 0 42 1 o ps.length (ptrs ps)
  ownU : wr.ownsRow 0 42 1 u qs.length (ptrs qs)
  ownX : wr.ownsRow 0 42 1 x qs.length (ptrs qs)
  vo : Apart v o
  vu : Apart v u
  vx : Apart v x
  ou : Apart o u
  ox : Apart o x
  ux : Apart u x
  hiV : ∀ g, v.ownBlock = some g → B ≤ g
  hiO : ∀ g, o.ownBlock = some g → B ≤ g
  hiU : ∀ g, u.ownBlock = some g → B ≤ g
  hiX : ∀ g, x.ownBlock = some g → B ≤ g
  live : ∀ p, p ∈ ps ∨ p ∈ qs → ∃ cs, wr.heap[p]? = some (.cells cs 48)
  big : B ≤ wr.heap.size

theorem Par.swap {w wr : World} {B C : Nat} {cs : Array Value} {v o u x : Value} {ps qs : List Nat} (h : Par w wr B C cs v o u x ps qs) : Par w wr B C cs u x v o qs ps :=
  ⟨h.below, h.hiC, h.par, h.ownU, h.ownX, h.ownV, h.ownO, h.ux, h.vu.symm, h.ou.symm, h.vx.symm, h.ox.symm, h.vo, h.hiU, h.hiX, h.hiV, h.hiO, fun p hp => h.live p hp.symm, h.big⟩

theorem Par.blocks {w wr w' : World} {B C : Nat} {cs : Array Value} {v o u x : Value} {ps qs : List Nat} (h : Par w wr B C cs v o u x ps qs) (hb : ∀ k, k < wr.heap.size → w'.heap[k]? = wr.heap[k]?) (hB : Below B w w') (hs : wr.heap.size ≤ w'.heap.size) : Par w w' B C cs v o u x ps qs :=
  ⟨hB, h.hiC, (hb C (Array.getElem?_eq_some_iff.1 h.par).1).trans h.par, ownsRow_heap h.ownV (fun g hg => hb g (row_lt h.ownV hg).1), ownsRow_heap h.ownO (fun g hg => hb g (row_lt h.ownO hg).1), ownsRow_heap h.ownU (fun g hg => hb g (row_lt h.ownU hg).1),
    ownsRow_heap h.ownX (fun g hg => hb g (row_lt h.ownX hg).1), h.vo, h.vu, h.vx, h.ou, h.ox, h.ux, h.hiV, h.hiO, h.hiU, h.hiX, fun p hp => by obtain ⟨c, hc⟩ := h.live p hp; exact ⟨c, (hb p (Array.getElem?_eq_some_iff.1 hc).1).trans hc⟩, Nat.le_trans h.big hs⟩

theorem Par.step {w wr W w1 w2 : World} {B C i : Nat} {cs : Array Value} {v o u x v' o' : Value} {ps qs : List Nat} (h : Par w wr B C cs v o u x ps qs) {bx : Array Value} (hW : W = wr.alloc (.cells bx 48))
    (A1 : App1 W w1 v v' ps.length (ptrs ps) (.pointer (some ⟨wr.heap.size, 0, none⟩))) (A2 : App1 (w1.setCell ⟨C, i, none⟩ v') w2 o o' ps.length (ptrs ps) (.pointer (some ⟨wr.heap.size, 0, none⟩))) :
    Par w w2 B C (cs.setIfInBounds i v') v' o' u x (ps ++ [wr.heap.size]) qs := by
  have hCl := (Array.getElem?_eq_some_iff.1 h.par).1
  have hsz : W.heap.size = wr.heap.size + 1 := by rw [hW]; simp
  have hold : ∀ k, k < wr.heap.size → W.heap[k]? = wr.heap[k]? := fun k hk => by rw [hW, Below.heap_alloc _ _ _ hk]
  have hP : W.heap[wr.heap.size]? = some (.cells bx 48) := by rw [hW]; exact heap_alloc_new wr _
  have WV : W.ownsRow 0 42 1 v ps.length (ptrs ps) := ownsRow_heap h.ownV (fun g hg => hold g (row_lt h.ownV hg).1)
  have WO : W.ownsRow 0 42 1 o ps.length (ptrs ps) := ownsRow_heap h.ownO (fun g hg => hold g (row_lt h.ownO hg).1)
  have WU : W.ownsRow 0 42 1 u qs.length (ptrs qs) := ownsRow_heap h.ownU (fun g hg => hold g (row_lt h.ownU hg).1)
  have WX : W.ownsRow 0 42 1 x qs.length (ptrs qs) := ownsRow_heap h.ownX (fun g hg => hold g (row_lt h.ownX hg).1)
  have WC : W.heap[C]? = some (.cells cs 48) := (hold C hCl).trans h.par
  obtain ⟨O1, a1⟩ := app_keep A1 WO h.vo
  obtain ⟨U1, a2⟩ := app_keep A1 WU h.vu
  obtain ⟨X1, a3⟩ := app_keep A1 WX h.vx
  have C1 : w1.heap[C]? = some (.cells cs 48) := (A1.block C (by omega) (row_ne WV WC)).trans WC
  have z1 := sc_size w1 ⟨C, i, none⟩ v'
  have C2 : (w1.setCell ⟨C, i, none⟩ v').heap[C]? = some (.cells (cs.setIfInBounds i v') 48) := sc_same i v' C1
  have sk : ∀ {y : Value} {n : Nat} {ys : List Value}, w1.ownsRow 0 42 1 y n ys → (w1.setCell ⟨C, i, none⟩ v').ownsRow 0 42 1 y n ys := fun hy => ownsRow_heap hy (fun g hg => sc_other _ _ (fun e => row_ne hy C1 (by rw [hg, e])))
  obtain ⟨V2, b1⟩ := app_keep A2 (sk A1.own) a1.symm
  obtain ⟨U2, b2⟩ := app_keep A2 (sk U1) h.ou
  obtain ⟨X2, b3⟩ := app_keep A2 (sk X1) h.ox
  have s1 := A1.size
  have s2 := A2.size
  have blk : ∀ {k : Nat} {c : Array Value}, W.heap[k]? = some (.cells c 48) → ∃ c', w2.heap[k]? = some (.cells c' 48) := by
    intro k c hk
    have hkl := (Array.getElem?_eq_some_iff.1 hk).1
    have e1 : w1.heap[k]? = some (.cells c 48) := (A1.block k hkl (row_ne WV hk)).trans hk
    by_cases hkC : k = C
    · subst hkC
      exact ⟨_, (A2.block _ (by omega) (row_ne (sk O1) C2)).trans C2⟩
    · have e2 : (w1.setCell ⟨C, i, none⟩ v').heap[k]? = some (.cells c 48) := by rw [sc_other _ _ hkC]; exact e1
      exact ⟨c, (A2.block k (by omega) (row_ne (sk O1) e2)).trans e2⟩
  have lo : ∀ k, k < B → w2.heap[k]? = wr.heap[k]? := fun k hk => by
    have hB := h.big
    have hC := h.hiC
    rw [A2.block k (by omega) (fun e => by have := h.hiO k e; omega), sc_other _ _ (by omega), A1.block k (by omega) (fun e => by have := h.hiV k e; omega)]
    exact hold k (by omega)
  have hB := h.big
  refine ⟨h.below.trans ?_, h.hiC, (A2.block C (by omega) (row_ne (sk O1) C2)).trans C2, ?_, ?_, U2, X2, ?_, a2, a3, b2, b3, h.ux, ?_, ?_, h.hiU, h.hiX, ?_, by omega⟩
  · refine ⟨A2.os.trans (A1.os.trans (by rw [hW]; rfl)), A2.tape.trans (A1.tape.trans (by rw [hW]; rfl)), A2.output.trans (A1.output.trans (by rw [hW]; rfl)), by omega, lo⟩
  · rw [ptrs_snoc, List.length_append]; exact V2
  · rw [ptrs_snoc, List.length_append]; exact A2.own
  · exact b1.symm
  · intro g hg
    rcases A1.lies with e | ⟨q, e, hge⟩
    · exact h.hiV g (e ▸ hg)
    · rw [hg] at e; injection e with e; omega
  · intro g hg
    rcases A2.lies with e | ⟨q, e, hge⟩
    · exact h.hiO g (e ▸ hg)
    · rw [hg] at e; injection e with e; omega
  · intro p hp
    rcases hp with hp | hp
    · rcases List.mem_append.1 hp with hp | hp
      · obtain ⟨c, hc⟩ := h.live p (.inl hp)
        exact blk ((hold p (Array.getElem?_eq_some_iff.1 hc).1).trans hc)
      · simp at hp
        subst hp
        exact blk hP
    · obtain ⟨c, hc⟩ := h.live p (.inr hp)
      exact blk ((hold p (Array.getElem?_eq_some_iff.1 hc).1).trans hc)

theorem Par.own2 {w wr W w1 : World} {B C i k : Nat} {cs : Array Value} {v o u x v' : Value} {ps qs : List Nat} (h : Par w wr B C cs v o u x ps qs) (hl : ps.length = k) {bx : Array Value} (hW : W = wr.alloc (.cells bx 48))
    (A1 : App1 W w1 v v' k (ptrs ps) (.pointer (some ⟨wr.heap.size, 0, none⟩))) : (w1.setCell ⟨C, i, none⟩ v').ownsRow 0 42 1 o k (ptrs ps) := by
  subst hl
  subst hW
  have WC : (wr.alloc (.cells bx 48)).heap[C]? = some (.cells cs 48) := (Below.heap_alloc _ _ _ (Array.getElem?_eq_some_iff.1 h.par).1).trans h.par
  have C1 : w1.heap[C]? = some (.cells cs 48) := (A1.block C (Array.getElem?_eq_some_iff.1 WC).1 (row_ne (h.ownV.alloc _) WC)).trans WC
  have O1 := (app_keep A1 (h.ownO.alloc (.cells bx 48)) h.vo).1
  exact ownsRow_heap O1 (fun g hg => sc_other _ _ (fun e => row_ne O1 C1 (by rw [hg, e])))

/-- The parent's own cells behind the first append. -/
theorem Par.mid {w wr W w1 : World} {B C k : Nat} {cs : Array Value} {v o u x v' : Value} {ps qs : List Nat} (h : Par w wr B C cs v o u x ps qs) {bx : Array Value} (hW : W = wr.alloc (.cells bx 48))
    (A1 : App1 W w1 v v' k (ptrs ps) (.pointer (some ⟨wr.heap.size, 0, none⟩))) : w1.heap[C]? = some (.cells cs 48) := by
  subst hW
  have WC : (wr.alloc (.cells bx 48)).heap[C]? = some (.cells cs 48) := (Below.heap_alloc _ _ _ (Array.getElem?_eq_some_iff.1 h.par).1).trans h.par
  exact (A1.block C (Array.getElem?_eq_some_iff.1 WC).1 (row_ne (h.ownV.alloc _) WC)).trans WC

theorem Par.next {w wr W w1 w2 : World} {B C i k : Nat} {cs cs' : Array Value} {v o u x v' o' : Value} {ps qs : List Nat} (h : Par w wr B C cs v o u x ps qs) (hl : ps.length = k) {bx : Array Value} (hW : W = wr.alloc (.cells bx 48))
    (A1 : App1 W w1 v v' k (ptrs ps) (.pointer (some ⟨wr.heap.size, 0, none⟩))) (A2 : App1 (w1.setCell ⟨C, i, none⟩ v') w2 o o' k (ptrs ps) (.pointer (some ⟨wr.heap.size, 0, none⟩))) (hcs : cs' = cs.setIfInBounds i v') :
    Par w w2 B C cs' v' o' u x (ps ++ [wr.heap.size]) qs ∧ (ps ++ [wr.heap.size]).length = k + 1 := by
  subst hl hcs
  exact ⟨h.step hW A1 A2, by simp⟩

end Go.Proofs.Ybulkjwu
