/-
  (*Map[struct{}]).Clear, (*Set).Clear.
-/
import Derived.Test.YbulkjxiRoot
namespace Go.Proofs.Ybulkjxi
open Go.RowKit
set_option linter.unusedSimpArgs false
set_option linter.unusedVariables false

theorem zero59 (w : World) : (zeroValue 59).run Yba.prog w = .ok (.agg #[.string ⟨#[]⟩]) w := by kernel_rfl

theorem clear59 (w : World) (a : Option Addr) (n c : Nat) (h : Strs w (.slice a n c) n) :
    ∃ W', (∀ ty, (Builtin.clear_ #[51] ty #[.slice a n c]).run Yba.prog w = .ok (.tuple #[]) W') ∧ Strs W' (.slice a n c) n ∧ Mov w W' (.slice a n c) (.slice a n c) := by
  obtain ⟨_, hnc, hm, hz, hx⟩ := h.cells
  rcases Nat.eq_zero_or_pos n with rfl | hpos
  · refine ⟨w, fun ty => ?_, h, ⟨fun _ _ _ => rfl, .inl rfl, Nat.le_refl _, rfl, rfl, rfl⟩⟩
    cases a <;> simp [Builtin.clear_, run_underlying Yba.underlying51]
  · cases a with
    | none => have := (hz rfl).1; omega
    | some y =>
      obtain ⟨g, cur, rfl, hg, hc, hcs⟩ := hx _ rfl
      have hzc : (Builtin.zeroCells (Value.agg #[.string ⟨#[]⟩]).cells n).toList = List.replicate n (.string ⟨#[]⟩) := by
        simp [Builtin.zeroCells, Value.cells]
        apply List.ext_getElem
        · simp
        · intro i h1 h2
          simp [Nat.mod_one]
      have hst := run_storeCells_cells (P := Yba.prog) g 0 (List.replicate n (.string ⟨#[]⟩)) 0 w
        (by intro j hj; simp at hj; simp only [Nat.zero_add]; rw [cell_of_row _ _ _ _ 59 (0, 0) hg, Array.getElem?_eq_getElem (by omega)]; rfl)
        (by intro j hj; exact frozen_of_row _ _ _ _ 59 hg) (by intro v hv'; rw [List.eq_of_mem_replicate hv']; rfl)
      simp only [Nat.add_zero] at hst
      obtain ⟨cur', hg', hs'⟩ := setCells_block g (List.replicate n (.string ⟨#[]⟩)) 0 w cur hg
      obtain ⟨p1, p2, p3, p4, p5⟩ := setCells_rest g (List.replicate n (.string ⟨#[]⟩)) 0 w
      refine ⟨w.setCells g 0 (List.replicate n (.string ⟨#[]⟩)), fun ty => ?_, strs_of_cells hg' hnc (by omega) hm (fun j hj => ?_), ⟨fun k hk hne => p5 k (fun e => hne (by rw [e]; rfl)), .inl rfl, by rw [p1]; exact Nat.le_refl _, p2, p3, p4⟩⟩
      · obtain ⟨m, rfl⟩ : ∃ m, n = m + 1 := ⟨n - 1, by omega⟩
        simp [Builtin.clear_, run_underlying Yba.underlying51, zero59, hzc, hst]
      · have := World.cell?_setCells_in g (List.replicate n (.string ⟨#[]⟩)) 0 w (fun k hk => by simp at hk; rw [Nat.zero_add, cell_of_row _ _ _ _ 59 (0, 0) hg, Array.getElem?_eq_getElem (by omega)]; rfl) j (by simpa using hj)
        rw [Nat.zero_add] at this
        refine ⟨⟨#[]⟩, this.trans ?_⟩
        simp [hj]

theorem Strs.none {w : World} {a : Option Addr} {n c : Nat} (h : Strs w (.slice a n c) n) : Strs w (.slice a 0 c) 0 := by
  obtain ⟨_, hnc, hm, hz, hx⟩ := h.cells
  cases a with
  | none =>
    obtain ⟨rfl, rfl⟩ := hz rfl
    exact h
  | some y =>
    obtain ⟨g, cur, rfl, hg, hc, hcs⟩ := hx _ rfl
    exact strs_of_cells hg (Nat.zero_le _) hc hm (fun j hj => by omega)

set_option maxHeartbeats 1000000 in
theorem clear_leaf {w : World} {p q n c : Nat} {a : Option Addr} (hp : w.cell? ⟨p, 1, none⟩ = some (.pointer (some ⟨q, 0, none⟩))) (hpq : p ≠ q) (hq : w.heap[q]? = some (.cells #[.slice a n c, .slice none 0 0] 54)) (hs : Strs w (.slice a n c) n) (hpo : (Value.slice a n c).ownBlock ≠ some p) (hn : n ≤ 1000) :
    Calls Yba.prog 14 #[.pointer (some ⟨p, 1, none⟩)] w fun e w' => e = .returned (.tuple #[]) ∧ w'.heap[q]? = some (.cells #[.slice a 0 c, .slice none 0 0] 54) ∧ Strs w' (.slice a 0 c) 0 ∧
      (∀ k, k < w.heap.size → k ≠ q → (Value.slice a n c).ownBlock ≠ some k → w'.heap[k]? = w.heap[k]?) ∧ w.heap.size ≤ w'.heap.size ∧ w'.os = w.os ∧ w'.tape = w.tape ∧ w'.output = w.output := by
  have hql := (Array.getElem?_eq_some_iff.1 hq).1
  have hpl := World.block_lt_of_cell? w ⟨p, 1, none⟩ hp
  have hvq : (Value.slice a n c).ownBlock ≠ some q := fun e => by
    obtain ⟨_, cur, h⟩ := hs.lt e
    rw [hq] at h
    simp at h
  obtain ⟨_, hnc, hmx, hz, hx⟩ := hs.cells
  obtain ⟨W, hrun, hS, hM⟩ := clear59 w a n c hs
  have hqW : W.heap[q]? = some (.cells #[.slice a n c, .slice none 0 0] 54) := (hM.block q hql hvq).trans hq
  have q0 : w.cell? ⟨q, 0, none⟩ = some (.slice a n c) := cell_of_row _ _ 0 _ 54 (0, 0) hq
  have q1 : w.cell? ⟨q, 1, none⟩ = some (.slice none 0 0) := cell_of_row _ _ 1 _ 54 (0, 0) hq
  have W0 : W.cell? ⟨q, 0, none⟩ = some (.slice a n c) := cell_of_row _ _ 0 _ 54 (0, 0) hqW
  have WF : W.frozen? ⟨q, 0, none⟩ = false := frozen_of_row _ _ 0 _ 54 hqW
  have WP : W.cell? ⟨p, 1, none⟩ = some (.pointer (some ⟨q, 0, none⟩)) := (World.cell?_of_block (a := ⟨p, 1, none⟩) (hM.block p hpl hpo)).trans hp
  have HF : Hid (∀ m, ((W.setCell ⟨q, 0, none⟩ (.slice a 0 c)).drewN m).heap[q]? = some (.cells #[.slice a 0 c, .slice none 0 0] 54) ∧ Strs ((W.setCell ⟨q, 0, none⟩ (.slice a 0 c)).drewN m) (.slice a 0 c) 0 ∧
      (∀ k, k < w.heap.size → k ≠ q → (Value.slice a n c).ownBlock ≠ some k → ((W.setCell ⟨q, 0, none⟩ (.slice a 0 c)).drewN m).heap[k]? = w.heap[k]?) ∧ w.heap.size ≤ ((W.setCell ⟨q, 0, none⟩ (.slice a 0 c)).drewN m).heap.size ∧ ((W.setCell ⟨q, 0, none⟩ (.slice a 0 c)).drewN m).os = w.os ∧ ((W.setCell ⟨q, 0, none⟩ (.slice a 0 c)).drewN m).tape = w.tape ∧ ((W.setCell ⟨q, 0, none⟩ (.slice a 0 c)).drewN m).output = w.output) := fun m => by
    refine ⟨sc_same 0 _ hqW, hS.none.heap (fun g hg => sc_other _ _ (fun e => ?_)), fun k hk hkq hne => (sc_other _ _ hkq).trans (hM.block k hk hne), ?_, hM.os, hM.tape, hM.output⟩
    · obtain ⟨_, cur, h⟩ := hS.none.lt hg
      rw [e, hqW] at h
      simp at h
    · show w.heap.size ≤ (W.setCell ⟨q, 0, none⟩ (.slice a 0 c)).heap.size
      rw [sc_size]
      exact hM.size
  have hc63 : c ≤ 9223372036854775807 := by unfold maxLen at hmx; omega
  clear hs hq hS hM hqW hmx
  cases a with
  | none =>
    obtain ⟨rfl, rfl⟩ := hz rfl
    clear hz hx
    go_enter Yba.func14, Yba.ntmps14
    go_wp2_with (first
      | (go_at_call 17; refine (leaf_yes q _ q1).mono ?_; rintro e w' ⟨rfl, rfl⟩)
      | (simp only [hrun]))
    go_region
    all_goals
      go_wp2
      go_end0
      exact ⟨rfl, HF.out _⟩
  | some y =>
    obtain ⟨g, cur, rfl, hg, hc, hcs⟩ := hx _ rfl
    clear hz hx hcs hg hc
    go_enter Yba.func14, Yba.ntmps14
    go_wp2_with (first
      | (go_at_call 17; refine (leaf_yes q _ q1).mono ?_; rintro e w' ⟨rfl, rfl⟩)
      | (simp only [hrun]))
    go_region
    all_goals
      go_wp2
      go_end0
      exact ⟨rfl, HF.out _⟩

set_option maxHeartbeats 400000 in
theorem clear_nil {w : World} {p : Nat} {mv : Value} (hp : w.heap[p]? = some (.cells #[mv, .pointer none] 45)) :
    Calls Yba.prog 14 #[.pointer (some ⟨p, 1, none⟩)] w fun e w' => e = .returned (.tuple #[]) ∧ w' = w.setCell ⟨p, 1, none⟩ (.pointer none) := by
  have p1 : w.cell? ⟨p, 1, none⟩ = some (.pointer none) := cell_of_row _ _ 1 _ 45 (0, 0) hp
  have pf : w.frozen? ⟨p, 1, none⟩ = false := frozen_of_row _ _ 1 _ 45 hp
  clear hp
  go_enter Yba.func14, Yba.ntmps14
  go_wp2
  refine bodyPost_ret (results_none rfl _ _ _) rfl ?_
  exact ⟨rfl, rfl⟩

theorem clear_any {w : World} {p n : Nat} {mv rv : Value} {T : List Nat} (hp : w.heap[p]? = some (.cells #[mv, rv] 45)) (hr : Root w rv n T) (hpT : p ∉ T) (hn : n ≤ 1000) :
    Calls Yba.prog 14 #[.pointer (some ⟨p, 1, none⟩)] w fun e w' => e = .returned (.tuple #[]) ∧ Kept w w' p mv T rv 0 T := by
  obtain ⟨hlt, h⟩ := hr
  have hpl := (Array.getElem?_eq_some_iff.1 hp).1
  rcases h with ⟨rfl, rfl⟩ | ⟨q, a, c, rfl, hq, hs, hqT, hgT⟩
  · refine (clear_nil hp).mono ?_
    rintro e w' ⟨rfl, rfl⟩
    exact ⟨rfl, sc_same 1 _ hp, ⟨fun k hk => by rw [sc_size]; exact hlt k hk, .inl ⟨rfl, rfl⟩⟩, fun k hk => .inl hk, fun k hk hkp _ => sc_other _ _ hkp, by rw [sc_size]; exact Nat.le_refl _, rfl, rfl, rfl⟩
  · have hpq : p ≠ q := fun e => hpT (by rw [e]; exact hqT)
    have hpo : (Value.slice a n c).ownBlock ≠ some p := fun e => hpT (hgT p e)
    refine (clear_leaf (cell_of_row _ _ 1 _ 45 (0, 0) hp) hpq hq hs hpo hn).mono ?_
    rintro e w' ⟨rfl, h1, h2, h3, h4, h5, h6, h7⟩
    refine ⟨rfl, (h3 p hpl hpq hpo).trans hp, ⟨fun k hk => Nat.lt_of_lt_of_le (hlt k hk) h4, .inr ⟨q, a, c, rfl, h1, h2, hqT, fun g hg => hgT g (by cases a with | none => simp [Value.ownBlock] at hg | some y => exact hg)⟩⟩, fun k hk => .inl hk, fun k hk hkp hkT => h3 k hk (fun e => hkT (by rw [e]; exact hqT)) (fun e => hkT (hgT k e)), h4, h5, h6, h7⟩

theorem sclear_any {w : World} {p n : Nat} {mv rv : Value} {T : List Nat} (hp : w.heap[p]? = some (.cells #[mv, rv] 45)) (hr : Root w rv n T) (hpT : p ∉ T) (hn : n ≤ 1000) :
    Calls Yba.prog 12 #[.pointer (some ⟨p, 1, none⟩)] w fun e w' => e = .returned (.tuple #[]) ∧ Kept w w' p mv T rv 0 T := by
  have h := clear_any hp hr hpT hn
  clear hp hr
  go_enter Yba.func12, Yba.ntmps12
  go_wp2_with (go_at_call 14; refine h.mono ?_; rintro e w' ⟨rfl, hk⟩)
  go_end0
  exact ⟨rfl, hk⟩

end Go.Proofs.Ybulkjxi
