/-
  (*Map[struct{}]).Put where the root is nil; both together.
-/
import Derived.Test.YbulkjxiPut
namespace Go.Proofs.Ybulkjxi
open Go.RowKit
set_option linter.unusedSimpArgs false
set_option linter.unusedVariables false

theorem sc_same {w : World} {g : Nat} {cs : Array Value} {t : TypeId} (i : Nat) (v : Value) (hg : w.heap[g]? = some (.cells cs t (0, 0))) : (w.setCell ⟨g, i, none⟩ v).heap[g]? = some (.cells (cs.setIfInBounds i v) t (0, 0)) :=
  heap_setCell_same w g i cs t v hg
theorem sc_other {w : World} {g k : Nat} (i : Nat) (v : Value) (h : k ≠ g) : (w.setCell ⟨g, i, none⟩ v).heap[k]? = w.heap[k]? := Below.heap_setCell w ⟨g, i, none⟩ v k h
theorem sc_size (w : World) (a : Addr) (v : Value) : (w.setCell a v).heap.size = w.heap.size := by simp [World.setCell]

/-- The world behind 'm.root = &node{}'. -/
theorem rooted (w W : World) (p : Nat) (mv : Value) (hp : w.heap[p]? = some (.cells #[mv, .pointer none] 45))
    (hW : W = ((w.setCell ⟨p, 1, none⟩ (.pointer (some ⟨w.heap.size + 1, 0, none⟩))).alloc (.cells #[] 49)).alloc (.cells #[.slice none 0 0, .slice none 0 0] 54)) :
    W.heap.size = w.heap.size + 2 ∧ W.heap[p]? = some (.cells #[mv, .pointer (some ⟨w.heap.size + 1, 0, none⟩)] 45) ∧ W.heap[w.heap.size + 1]? = some (.cells #[.slice none 0 0, .slice none 0 0] 54) ∧
    (∀ k, k < w.heap.size → k ≠ p → W.heap[k]? = w.heap[k]?) ∧ W.os = w.os ∧ W.tape = w.tape ∧ W.output = w.output := by
  have hpl := (Array.getElem?_eq_some_iff.1 hp).1
  have e0 := sc_size w ⟨p, 1, none⟩ (.pointer (some ⟨w.heap.size + 1, 0, none⟩))
  have e1 : ((w.setCell ⟨p, 1, none⟩ (.pointer (some ⟨w.heap.size + 1, 0, none⟩))).alloc (.cells #[] 49)).heap.size = w.heap.size + 1 := by rw [World.size_alloc, e0]
  subst hW
  refine ⟨by rw [World.size_alloc, e1], ?_, ?_, fun k hk hkp => ?_, rfl, rfl, rfl⟩
  · rw [Below.heap_alloc _ _ _ (by omega), Below.heap_alloc _ _ _ (by omega)]
    exact sc_same 1 _ hp
  · have := heap_alloc_new ((w.setCell ⟨p, 1, none⟩ (.pointer (some ⟨w.heap.size + 1, 0, none⟩))).alloc (.cells #[] 49)) (.cells #[.slice none 0 0, .slice none 0 0] 54)
    rwa [e1] at this
  · rw [Below.heap_alloc _ _ _ (by omega), Below.heap_alloc _ _ _ (by omega), sc_other _ _ hkp]

/-- What put_nil leaves. -/
structure Sown (w w' : World) (p : Nat) (mv : Value) (g c : Nat) : Prop where
  fresh : w.heap.size ≤ g
  node : w'.heap[w.heap.size + 1]? = some (.cells #[.slice (some ⟨g, 0, none⟩) 1 c, .slice none 0 0] 54)
  items : Strs w' (.slice (some ⟨g, 0, none⟩) 1 c) 1
  own : w'.heap[p]? = some (.cells #[mv, .pointer (some ⟨w.heap.size + 1, 0, none⟩)] 45)
  block : ∀ k, k < w.heap.size → k ≠ p → w'.heap[k]? = w.heap[k]?
  size : w.heap.size + 2 ≤ w'.heap.size
  os : w'.os = w.os
  tape : w'.tape = w.tape
  output : w'.output = w.output

theorem sown_of {w W X w1 : World} {p : Nat} {mv : Value} {key : ByteArray} {g c' : Nat} (hpl : p < w.heap.size)
    (hW : W.heap.size = w.heap.size + 2 ∧ W.heap[p]? = some (.cells #[mv, .pointer (some ⟨w.heap.size + 1, 0, none⟩)] 45) ∧ W.heap[w.heap.size + 1]? = some (.cells #[.slice none 0 0, .slice none 0 0] 54) ∧
      (∀ k, k < w.heap.size → k ≠ p → W.heap[k]? = w.heap[k]?) ∧ W.os = w.os ∧ W.tape = w.tape ∧ W.output = w.output)
    (hX : X.heap = W.heap ∧ X.os = W.os ∧ X.tape = W.tape ∧ X.output = W.output)
    (hS : Strs w1 (.slice (some ⟨g, 0, none⟩) (0 + 1) c') (0 + 1)) (hM : Mov (X.alloc (.cells #[.string key] 59)).drew w1 (.slice none 0 0) (.slice (some ⟨g, 0, none⟩) (0 + 1) c')) :
    w1.heap[w.heap.size + 1]? = some (.cells #[.slice none 0 0, .slice none 0 0] 54) ∧ Sown w (w1.setCell ⟨w.heap.size + 1, 0, none⟩ (.slice (some ⟨g, 0, none⟩) (0 + 1) c')) p mv g c' := by
  obtain ⟨h1, h2, h3, h4, h5, h6, h7⟩ := hW
  obtain ⟨x1, x2, x3, x4⟩ := hX
  have hsz : (X.alloc (.cells #[.string key] 59)).drew.heap.size = w.heap.size + 3 := by
    show (X.alloc (.cells #[.string key] 59)).heap.size = _
    rw [World.size_alloc, x1, h1]
  have hk : ∀ k, k < w.heap.size + 2 → w1.heap[k]? = W.heap[k]? := fun k hk => by
    rw [hM.block k (by omega) (by simp [Value.ownBlock])]
    show (X.alloc (.cells #[.string key] 59)).heap[k]? = _
    rw [Below.heap_alloc _ _ _ (by rw [x1, h1]; exact hk), x1]
  have hq : w1.heap[w.heap.size + 1]? = some (.cells #[.slice none 0 0, .slice none 0 0] 54) := (hk _ (by omega)).trans h3
  have hms := hM.size
  refine ⟨hq, ⟨?_, sc_same 0 _ hq, hS.heap (fun g' hg' => sc_other _ _ (fun e => ?_)), ?_, fun k hk' hkp => ?_, by rw [sc_size]; omega, hM.os.trans (x2.trans h5), hM.tape.trans (x3.trans h6), hM.output.trans (x4.trans h7)⟩⟩
  · rcases hM.lies with h | ⟨g', h, hge⟩
    · simp [Value.ownBlock] at h
    · simp [Value.ownBlock] at h
      omega
  · obtain ⟨_, cur, h⟩ := hS.lt hg'
    rw [e, hq] at h
    simp at h
  · rw [sc_other _ _ (by omega), hk p (by omega)]
    exact h2
  · rw [sc_other _ _ (by omega), hk k (by omega)]
    exact h4 k hk' hkp

set_option maxHeartbeats 1000000 in
theorem put_nil {w : World} {p : Nat} {mv : Value} (key : ByteArray) (hp : w.heap[p]? = some (.cells #[mv, .pointer none] 45)) :
    Calls Yba.prog 13 #[.pointer (some ⟨p, 1, none⟩), .string key, .agg #[]] w fun e w' => e = .returned (.tuple #[]) ∧ ∃ g c, Sown w w' p mv g c := by
  have hpl := (Array.getElem?_eq_some_iff.1 hp).1
  have p1 : w.cell? ⟨p, 1, none⟩ = some (.pointer none) := cell_of_row _ _ 1 _ 45 (0, 0) hp
  have pf : w.frozen? ⟨p, 1, none⟩ = false := frozen_of_row _ _ 1 _ 45 hp
  have hfold : ∀ (f : Array Value → (Value × Nat) → Array Value) (b : Array Value), Array.foldl f b (#[] : Array Value).zipIdx 0 0 = b := fun f b => rfl
  have HR := rooted w _ p mv hp rfl
  obtain ⟨W, hW⟩ : ∃ W, W = ((w.setCell ⟨p, 1, none⟩ (.pointer (some ⟨w.heap.size + 1, 0, none⟩))).alloc (.cells #[] 49)).alloc (.cells #[.slice none 0 0, .slice none 0 0] 54) := ⟨_, rfl⟩
  rw [← hW] at HR
  have HRh : Hid (W.heap.size = w.heap.size + 2 ∧ W.heap[p]? = some (.cells #[mv, .pointer (some ⟨w.heap.size + 1, 0, none⟩)] 45) ∧ W.heap[w.heap.size + 1]? = some (.cells #[.slice none 0 0, .slice none 0 0] 54) ∧
      (∀ k, k < w.heap.size → k ≠ p → W.heap[k]? = w.heap[k]?) ∧ W.os = w.os ∧ W.tape = w.tape ∧ W.output = w.output) := HR
  have q0 : W.cell? ⟨w.heap.size + 1, 0, none⟩ = some (.slice none 0 0) := cell_of_row _ _ 0 _ 54 (0, 0) HR.2.2.1
  have q1 : W.cell? ⟨w.heap.size + 1, 1, none⟩ = some (.slice none 0 0) := cell_of_row _ _ 1 _ 54 (0, 0) HR.2.2.1
  have lq : w.heap.size + 1 < W.heap.size := by omega
  have se := search_none (w.heap.size + 1) 0 none key W q0
  clear HR hp
  go_enter Yba.func13, Yba.ntmps13
  go_wp2
  rw [← hW]
  refine wp_loop_rounds 1 ?_
  rw [rounds_succ]
  clear hW
  go_wp2_with (first
    | (go_at_call 16; refine se.mono ?_; rintro e w' ⟨⟨i, f, rfl, hi, hf⟩, m, rfl⟩; obtain rfl : i = 0 := (by omega); obtain rfl : f = false := (by cases f; rfl; exact absurd (hf rfl) (by omega)))
    | (go_at_call 17; refine (leaf_yes (w.heap.size + 1) _ (by exact q1)).mono ?_; rintro e w' ⟨rfl, rfl⟩))
  obtain ⟨X, hX⟩ : ∃ X, X = W.drewN m := ⟨_, rfl⟩
  rw [← hX]
  have hXh : X.heap = W.heap ∧ X.os = W.os ∧ X.tape = W.tape ∧ X.output = W.output := by rw [hX]; exact ⟨rfl, rfl, rfl, rfl⟩
  have x0 : X.cell? ⟨w.heap.size + 1, 0, none⟩ = some (.slice none 0 0) := by rw [hX]; exact q0
  have lx : w.heap.size + 1 < X.heap.size := by rw [hXh.1]; exact lq
  have HI : Hid (Calls Yba.prog 18 #[.slice none 0 0, .int .i64 ((0 : Nat) : Int), .slice (some ⟨X.heap.size, 0, none⟩) 1 1] (X.alloc (.cells #[.string key] 59)).drew (Inserted (X.alloc (.cells #[.string key] 59)).drew (.slice none 0 0) 0)) :=
    ins_end (n := 0) ⟨[], World.ownsRow_nil _ _ _ _⟩ (by omega) (heap_alloc_new X _)
  have HE : Hid (∀ (w1 : World) (g c' : Nat), Strs w1 (.slice (some ⟨g, 0, none⟩) (0 + 1) c') (0 + 1) → Mov (X.alloc (.cells #[.string key] 59)).drew w1 (.slice none 0 0) (.slice (some ⟨g, 0, none⟩) (0 + 1) c') →
      w1.heap[w.heap.size + 1]? = some (.cells #[.slice none 0 0, .slice none 0 0] 54) ∧ Sown w (w1.setCell ⟨w.heap.size + 1, 0, none⟩ (.slice (some ⟨g, 0, none⟩) (0 + 1) c')) p mv g c') := fun w1 g c' hS hM => sown_of hpl HRh.out hXh hS hM
  clear hX hXh se q0 q1 lq
  go_region_with (go_at_call 18; refine HI.out.mono ?_; rintro e w1 ⟨g, c', rfl, hS2, hM⟩; obtain ⟨h1, hfin⟩ := HE.out w1 g c' hS2 hM; have k0 : w1.cell? ⟨w.heap.size + 1, 0, none⟩ = some (.slice none 0 0) := cell_of_row _ _ 0 _ 54 (0, 0) h1; have kf : w1.frozen? ⟨w.heap.size + 1, 0, none⟩ = false := frozen_of_row _ _ 0 _ 54 h1; clear hS2 hM h1)
  all_goals
    go_wp2
    refine bodyPost_ret (results_none rfl _ _ _) rfl ?_
    exact ⟨rfl, g, c', hfin⟩

end Go.Proofs.Ybulkjxi
