/-
  The tree of a table: nil or one leaf; Add and Clear keep that.
-/
import Derived.Test.YbulkjxiPut2
namespace Go.Proofs.Ybulkjxi
open Go.RowKit
set_option linter.unusedSimpArgs false
set_option linter.unusedVariables false

/-- The root rv: nil, or a leaf of n items; T: the blocks that are the tree's own. -/
def Root (w : World) (rv : Value) (n : Nat) (T : List Nat) : Prop :=
  (∀ k ∈ T, k < w.heap.size) ∧ ((rv = .pointer none ∧ n = 0) ∨ ∃ q a c, rv = .pointer (some ⟨q, 0, none⟩) ∧ w.heap[q]? = some (.cells #[.slice a n c, .slice none 0 0] 54) ∧ Strs w (.slice a n c) n ∧ q ∈ T ∧ ∀ g, (Value.slice a n c).ownBlock = some g → g ∈ T)

theorem Root.blocks {w w' : World} {rv : Value} {n : Nat} {T : List Nat} (h : Root w rv n T) (hb : ∀ k ∈ T, w'.heap[k]? = w.heap[k]?) (hs : w.heap.size ≤ w'.heap.size) : Root w' rv n T := by
  obtain ⟨hlt, h⟩ := h
  refine ⟨fun k hk => Nat.lt_of_lt_of_le (hlt k hk) hs, ?_⟩
  rcases h with h | ⟨q, a, c, h1, h2, h3, h4, h5⟩
  · exact .inl h
  · exact .inr ⟨q, a, c, h1, (hb q h4).trans h2, h3.heap (fun g hg => hb g (h5 g hg)), h4, h5⟩

/-- What Add and Clear leave of the table at block p (its map's value: mv). -/
structure Kept (w w' : World) (p : Nat) (mv : Value) (T : List Nat) (rv' : Value) (n' : Nat) (T' : List Nat) : Prop where
  own : w'.heap[p]? = some (.cells #[mv, rv'] 45)
  root : Root w' rv' n' T'
  mine : ∀ k ∈ T', k ∈ T ∨ w.heap.size ≤ k
  block : ∀ k, k < w.heap.size → k ≠ p → k ∉ T → w'.heap[k]? = w.heap[k]?
  size : w.heap.size ≤ w'.heap.size
  os : w'.os = w.os
  tape : w'.tape = w.tape
  output : w'.output = w.output

theorem put_any {w : World} {p n : Nat} {mv rv : Value} {T : List Nat} (key : ByteArray) (hp : w.heap[p]? = some (.cells #[mv, rv] 45)) (hr : Root w rv n T) (hpT : p ∉ T) (hn : n ≤ 29) :
    Calls Yba.prog 13 #[.pointer (some ⟨p, 1, none⟩), .string key, .agg #[]] w fun e w' => e = .returned (.tuple #[]) ∧ ∃ rv' n' T', n' ≤ n + 1 ∧ Kept w w' p mv T rv' n' T' := by
  obtain ⟨hlt, h⟩ := hr
  have hpl := (Array.getElem?_eq_some_iff.1 hp).1
  rcases h with ⟨rfl, rfl⟩ | ⟨q, a, c, rfl, hq, hs, hqT, hgT⟩
  · refine (put_nil key hp).mono ?_
    rintro e w' ⟨rfl, g, c, S⟩
    refine ⟨rfl, _, 1, [w.heap.size + 1, g], by omega, S.own, ⟨fun k hk => ?_, .inr ⟨w.heap.size + 1, some ⟨g, 0, none⟩, c, rfl, S.node, S.items, by simp, fun g' hg' => by simp [Value.ownBlock] at hg'; simp [hg']⟩⟩, fun k hk => ?_, fun k hk hkp _ => S.block k hk hkp, by have := S.size; omega, S.os, S.tape, S.output⟩
    · have hs := S.size
      rcases List.mem_cons.1 hk with rfl | hk
      · omega
      · simp at hk
        subst hk
        exact (S.items.lt rfl).1
    · have hf := S.fresh
      rcases List.mem_cons.1 hk with rfl | hk
      · exact .inr (by omega)
      · simp at hk
        subst hk
        exact .inr hf
  · have hpq : p ≠ q := fun e => hpT (by rw [e]; exact hqT)
    refine (put_leaf key hn (cell_of_row _ _ 1 _ 45 (0, 0) hp) hq hs).mono ?_
    rintro e w' ⟨rfl, v', n', hn', h1, h2, h3, h4, h5, h6, h7, h8⟩
    obtain ⟨ss, hown⟩ := h2
    have hsh : ∃ a' c', v' = .slice a' n' c' := by
      rcases hown.2 with ⟨rfl, rfl⟩ | ⟨g, cap, cur, rfl, _⟩
      · exact ⟨none, 0, rfl⟩
      · exact ⟨_, _, rfl⟩
    obtain ⟨a', c', rfl⟩ := hsh
    have hS : Strs w' (.slice a' n' c') n' := ⟨ss, hown⟩
    have hpo : (Value.slice a n c).ownBlock ≠ some p := fun e => hpT (hgT p e)
    refine ⟨rfl, .pointer (some ⟨q, 0, none⟩), n', match (Value.slice a' n' c').ownBlock with | some g => g :: T | none => T, hn', (h4 p hpl hpq hpo).trans hp, ⟨fun k hk => ?_, .inr ⟨q, a', c', rfl, h1, hS, ?_, fun g hg => ?_⟩⟩, fun k hk => ?_, fun k hk hkp hkT => h4 k hk (fun e => hkT (by rw [e]; exact hqT)) (fun e => hkT (hgT k e)), h5, h6, h7, h8⟩
    · split at hk
      · rename_i g hg
        rcases List.mem_cons.1 hk with rfl | hk
        · exact (hS.lt hg).1
        · exact Nat.lt_of_lt_of_le (hlt k hk) h5
      · exact Nat.lt_of_lt_of_le (hlt k hk) h5
    · split
      · exact List.mem_cons_of_mem _ hqT
      · exact hqT
    · rw [hg]
      simp
    · split at hk
      · rename_i g hg
        rcases List.mem_cons.1 hk with rfl | hk
        · rcases h3 with e | ⟨g', e, hge⟩
          · exact .inl (hgT _ (e ▸ hg))
          · rw [hg] at e
            injection e with e
            exact .inr (by omega)
        · exact .inl hk
      · exact .inl hk

set_option maxHeartbeats 400000 in
theorem add_any {w : World} {p n : Nat} {mv rv : Value} {T : List Nat} (key : ByteArray) (hp : w.heap[p]? = some (.cells #[mv, rv] 45)) (hr : Root w rv n T) (hpT : p ∉ T) (hn : n ≤ 29) :
    Calls Yba.prog 11 #[.pointer (some ⟨p, 1, none⟩), .string key] w fun e w' => e = .returned (.tuple #[]) ∧ ∃ rv' n' T', n' ≤ n + 1 ∧ Kept w w' p mv T rv' n' T' := by
  have h := put_any key hp hr hpT hn
  clear hp hr
  go_enter Yba.func11, Yba.ntmps11
  go_wp2_with (go_at_call 13; refine h.mono ?_; rintro e w' ⟨rfl, hk⟩)
  go_end0
  exact ⟨rfl, hk⟩

end Go.Proofs.Ybulkjxi
