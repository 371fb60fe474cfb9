/-
  (*Map[struct{}]).Put where the root is nil or a leaf that is not full.
-/
import Derived.Test.YbulkjxiSearch
import Derived.Deep.RegionWith
namespace Go.Proofs.Ybulkjxi
open Go.RowKit
set_option linter.unusedSimpArgs false
set_option linter.unusedVariables false

theorem ownsRow_heap {w w' : World} {B : Nat} {e : TypeId} {v : Value} {n : Nat} {xs : List Value} (h : w.ownsRow B e 1 v n xs) (hh : ∀ g, v.ownBlock = some g → w'.heap[g]? = w.heap[g]?) : w'.ownsRow B e 1 v n xs := by
  rcases h.2 with h2 | ⟨g, cap, cur, rfl, hb, hg, hrest⟩
  · exact ⟨h.1, .inl h2⟩
  · exact ⟨h.1, .inr ⟨g, cap, cur, rfl, hb, (hh g rfl).trans hg, hrest⟩⟩

theorem Strs.heap {w w' : World} {v : Value} {n : Nat} (h : Strs w v n) (hh : ∀ g, v.ownBlock = some g → w'.heap[g]? = w.heap[g]?) : Strs w' v n := by
  obtain ⟨ss, h⟩ := h
  exact ⟨ss, ownsRow_heap h hh⟩

theorem Strs.lt {w : World} {v : Value} {n g : Nat} (h : Strs w v n) (hg : v.ownBlock = some g) : g < w.heap.size ∧ ∃ cur, w.heap[g]? = some (.cells cur 59) := by
  obtain ⟨ss, h⟩ := h
  rcases h.2 with ⟨rfl, _⟩ | ⟨q, c, cur, rfl, _, hq, _⟩
  · cases hg
  · cases hg
    exact ⟨(Array.getElem?_eq_some_iff.1 hq).1, cur, hq⟩

theorem search_any {w : World} {q n c : Nat} {a : Option Addr} (key : ByteArray) (hn : n ≤ 1000) (h0 : w.cell? ⟨q, 0, none⟩ = some (.slice a n c)) (hs : Strs w (.slice a n c) n) :
    Calls Yba.prog 16 #[.pointer (some ⟨q, 0, none⟩), .string key] w fun e w' => (∃ (i : Nat) (f : Bool), e = .returned (.tuple #[.int .i64 i, .bool f]) ∧ i ≤ n ∧ (f = true → i < n)) ∧ ∃ m, w' = w.drewN m := by
  obtain ⟨_, hnc, hm, hz, hx⟩ := hs.cells
  cases a with
  | none =>
    obtain ⟨rfl, rfl⟩ := hz rfl
    exact search_none q 0 none key w h0
  | some y =>
    obtain ⟨g, cur, rfl, hg, hc, hcs⟩ := hx _ rfl
    exact search_some q g n c key w hn h0 hcs

theorem run_part (W : World) (g i : Nat) (cur : Array Value) (hg : W.heap[g]? = some (.cells cur 59)) : (partAt ⟨g, i, none⟩ 1 16).run Yba.prog W = .ok ⟨g, i + 1, some (i * 24 + 16)⟩ W := by
  have hs : W.shape? g = some (59, cur.size) := by simp [World.shape?, hg]
  have c1 : Yba.prog.cellsOf 59 = 1 := by kernel_rfl
  have c2 : Yba.prog.bytesOf 59 = 24 := by kernel_rfl
  have c3 : byteOfCell Yba.prog Yba.prog.depth 59 0 = some 0 := by kernel_rfl
  have hne : ¬ ((i + 1) * 24 = i * 24 + 16) := by omega
  simp [partAt, byteOf, noView, viewAt, shape, program, Sem.run, hs, c1, c2, c3, hne, Nat.mod_one, Result.andThen]

set_option maxHeartbeats 1000000 in
theorem put_leaf {w : World} {p q n c : Nat} {a : Option Addr} (key : ByteArray) (hn : n ≤ 29) (hp : w.cell? ⟨p, 1, none⟩ = some (.pointer (some ⟨q, 0, none⟩))) (hq : w.heap[q]? = some (.cells #[.slice a n c, .slice none 0 0] 54)) (hs : Strs w (.slice a n c) n) :
    Calls Yba.prog 13 #[.pointer (some ⟨p, 1, none⟩), .string key, .agg #[]] w fun e w' => e = .returned (.tuple #[]) ∧ ∃ v' n', n' ≤ n + 1 ∧ w'.heap[q]? = some (.cells #[v', .slice none 0 0] 54) ∧ Strs w' v' n' ∧
      (v'.ownBlock = (Value.slice a n c).ownBlock ∨ ∃ g, v'.ownBlock = some g ∧ w.heap.size ≤ g) ∧ (∀ k, k < w.heap.size → k ≠ q → (Value.slice a n c).ownBlock ≠ some k → w'.heap[k]? = w.heap[k]?) ∧ w.heap.size ≤ w'.heap.size ∧ w'.os = w.os ∧ w'.tape = w.tape ∧ w'.output = w.output := by
  have hql := (Array.getElem?_eq_some_iff.1 hq).1
  have hpl := World.block_lt_of_cell? w ⟨p, 1, none⟩ hp
  have hvq : (Value.slice a n c).ownBlock ≠ some q := fun e => by
    obtain ⟨_, cur, h⟩ := hs.lt e
    rw [hq] at h
    simp at h
  have hW : ∀ k, k < w.heap.size → (w.alloc (.cells #[] 49)).heap[k]? = w.heap[k]? := fun k hk => Below.heap_alloc _ _ _ hk
  have hqW : (w.alloc (.cells #[] 49)).heap[q]? = some (.cells #[.slice a n c, .slice none 0 0] 54) := (hW q hql).trans hq
  have hsW : Strs (w.alloc (.cells #[] 49)) (.slice a n c) n := hs.heap (fun g hg => hW g (hs.lt hg).1)
  have q0 : w.cell? ⟨q, 0, none⟩ = some (.slice a n c) := cell_of_row _ _ 0 _ 54 (0, 0) hq
  have q1 : w.cell? ⟨q, 1, none⟩ = some (.slice none 0 0) := cell_of_row _ _ 1 _ 54 (0, 0) hq
  have se := search_any key (by omega) (cell_of_row _ _ 0 _ 54 (0, 0) hqW) hsW
  have HS : Hid (Strs w (.slice a n c) n) := hs
  have HQ : Hid (w.heap[q]? = some (.cells #[.slice a n c, .slice none 0 0] 54)) := hq
  have hn31 : ¬ ((n : Int) = 31) := by omega
  have hfold : ∀ (f : Array Value → (Value × Nat) → Array Value) (b : Array Value), Array.foldl f b (#[] : Array Value).zipIdx 0 0 = b := fun f b => rfl
  clear hs hq hqW hsW hW
  go_enter Yba.func13, Yba.ntmps13
  go_wp2
  refine wp_loop_rounds 1 ?_
  rw [rounds_succ]
  go_wp2_with (first
    | (go_at_call 16; refine se.mono ?_; rintro e w' ⟨⟨i, f, rfl, hi, hf⟩, m, rfl⟩; cases f)
    | (go_at_call 17; refine (leaf_yes q _ (by simp [World.cell?_alloc_lt, hql, q1])).mono ?_; rintro e w' ⟨rfl, rfl⟩))
  · obtain ⟨X, hX⟩ : ∃ X, X = (w.alloc (.cells #[] 49)).drewN m := ⟨_, rfl⟩
    rw [← hX]
    have hXh : X.heap = (w.alloc (.cells #[] 49)).heap := by rw [hX]; rfl
    have hXo : X.os = w.os ∧ X.tape = w.tape ∧ X.output = w.output := by rw [hX]; exact ⟨rfl, rfl, rfl⟩
    have hXs : X.heap.size = w.heap.size + 1 := by rw [hXh]; simp
    have hXk : ∀ k, k < w.heap.size → X.heap[k]? = w.heap[k]? := fun k hk => by rw [hXh]; exact Below.heap_alloc _ _ _ hk
    have x0 : X.cell? ⟨q, 0, none⟩ = some (.slice a n c) := (World.cell?_of_block (a := ⟨q, 0, none⟩) (hXk q hql)).trans q0
    have xq : X.heap[q]? = some (.cells #[.slice a n c, .slice none 0 0] 54) := (hXk q hql).trans HQ.out
    have lq : q < X.heap.size := by omega
    have hS1 : Strs (X.alloc (.cells #[.string key] 59)).drew (.slice a n c) n := HS.out.heap (fun g hg => (Below.heap_alloc X _ g (by have := (HS.out.lt hg).1; omega)).trans (hXk g (HS.out.lt hg).1))
    have HI : Hid (Calls Yba.prog 18 #[.slice a n c, .int .i64 i, .slice (some ⟨X.heap.size, 0, none⟩) 1 1] (X.alloc (.cells #[.string key] 59)).drew (Inserted (X.alloc (.cells #[.string key] 59)).drew (.slice a n c) n)) :=
      ins_any hS1 (by omega) hi (heap_alloc_new X _) (fun e => by have := (HS.out.lt e).1; omega)
    have HE : Hid (∀ (w1 : World) (g c' : Nat), Strs w1 (.slice (some ⟨g, 0, none⟩) (n + 1) c') (n + 1) → Mov (X.alloc (.cells #[.string key] 59)).drew w1 (.slice a n c) (.slice (some ⟨g, 0, none⟩) (n + 1) c') →
        w1.heap[q]? = some (.cells #[.slice a n c, .slice none 0 0] 54) ∧ ∃ v' n', n' ≤ n + 1 ∧ (w1.setCell ⟨q, 0, none⟩ (.slice (some ⟨g, 0, none⟩) (n + 1) c')).heap[q]? = some (.cells #[v', .slice none 0 0] 54) ∧ Strs (w1.setCell ⟨q, 0, none⟩ (.slice (some ⟨g, 0, none⟩) (n + 1) c')) v' n' ∧
      (v'.ownBlock = (Value.slice a n c).ownBlock ∨ ∃ g, v'.ownBlock = some g ∧ w.heap.size ≤ g) ∧ (∀ k, k < w.heap.size → k ≠ q → (Value.slice a n c).ownBlock ≠ some k → (w1.setCell ⟨q, 0, none⟩ (.slice (some ⟨g, 0, none⟩) (n + 1) c')).heap[k]? = w.heap[k]?) ∧ w.heap.size ≤ (w1.setCell ⟨q, 0, none⟩ (.slice (some ⟨g, 0, none⟩) (n + 1) c')).heap.size ∧
        (w1.setCell ⟨q, 0, none⟩ (.slice (some ⟨g, 0, none⟩) (n + 1) c')).os = w.os ∧ (w1.setCell ⟨q, 0, none⟩ (.slice (some ⟨g, 0, none⟩) (n + 1) c')).tape = w.tape ∧ (w1.setCell ⟨q, 0, none⟩ (.slice (some ⟨g, 0, none⟩) (n + 1) c')).output = w.output) := fun w1 g c' hS2 hM => by
      have hsz : (X.alloc (.cells #[.string key] 59)).drew.heap.size = X.heap.size + 1 := World.size_alloc X _
      have hk : ∀ k, k < w.heap.size → (Value.slice a n c).ownBlock ≠ some k → w1.heap[k]? = w.heap[k]? := fun k hk hne => (hM.block k (by omega) hne).trans ((Below.heap_alloc X _ k (by omega)).trans (hXk k hk))
      have h1 : w1.heap[q]? = some (.cells #[.slice a n c, .slice none 0 0] 54) := (hk q hql hvq).trans HQ.out
      refine ⟨h1, .slice (some ⟨g, 0, none⟩) (n + 1) c', n + 1, Nat.le_refl _, heap_setCell_same w1 q 0 _ 54 _ h1, hS2.heap (fun g' hg' => Below.heap_setCell w1 ⟨q, 0, none⟩ _ g' (fun e => ?_)), ?_, fun k hk' hkq hne => (Below.heap_setCell w1 ⟨q, 0, none⟩ _ k hkq).trans (hk k hk' hne), ?_, hM.os.trans hXo.1, hM.tape.trans hXo.2.1, hM.output.trans hXo.2.2⟩
      · obtain ⟨_, cur, h⟩ := hS2.lt hg'
        have e' : g' = q := e
        rw [e', h1] at h
        simp at h
      · rcases hM.lies with h | ⟨g', h, hge⟩
        · exact .inl h
        · exact .inr ⟨g', h, by omega⟩
      · have := hM.size
        have e : ∀ v, (w1.setCell ⟨q, 0, none⟩ v).heap.size = w1.heap.size := fun v => by simp [World.setCell]
        rw [e]
        omega
    clear hX hXh hXs hXk hXo hS1 se hf q0 q1 xq
    go_region_with (go_at_call 18; refine HI.out.mono ?_; rintro e w1 ⟨g, c', rfl, hS2, hM⟩; obtain ⟨h1, hfin⟩ := HE.out w1 g c' hS2 hM; have k0 : w1.cell? ⟨q, 0, none⟩ = some (.slice a n c) := cell_of_row _ _ 0 _ 54 (0, 0) h1; have kf : w1.frozen? ⟨q, 0, none⟩ = false := frozen_of_row _ _ 0 _ 54 h1; have HF := Hid.out (p := True) trivial; clear hS2 hM h1)
    all_goals
      go_wp2
      refine bodyPost_ret (results_none rfl _ _ _) rfl ?_
      exact ⟨rfl, hfin⟩
  · have hin := hf trivial
    obtain ⟨_, hnc, hmx, hz, hx⟩ := HS.out.cells
    cases a with
    | none => have := (hz rfl).1; omega
    | some y =>
      obtain ⟨g, cur, rfl, hg, hc, hcs⟩ := hx _ rfl
      have hpt : ∀ k, (partAt ⟨g, i, none⟩ 1 16).run Yba.prog ((w.alloc (.cells #[] 49)).drewN k) = .ok ⟨g, i + 1, some (i * 24 + 16)⟩ ((w.alloc (.cells #[] 49)).drewN k) := fun k => run_part _ g i cur ((Below.heap_alloc w _ g (Array.getElem?_eq_some_iff.1 hg).1).trans hg)
      clear hx hcs hz se hf
      go_region
      all_goals
        go_wp2
        refine bodyPost_ret (results_none rfl _ _ _) rfl ?_
        refine ⟨rfl, .slice (some ⟨g, 0, none⟩) n c, n, by omega, ?_, ?_, .inl rfl, fun k hk _ _ => Below.heap_alloc w _ k hk, ?_, rfl, rfl, rfl⟩
        · exact (Below.heap_alloc w _ q hql).trans HQ.out
        · exact HS.out.heap (fun g' hg' => Below.heap_alloc w _ g' (HS.out.lt hg').1)
        · show w.heap.size ≤ (w.alloc (.cells #[] 49)).heap.size
          simp

end Go.Proofs.Ybulkjxi
