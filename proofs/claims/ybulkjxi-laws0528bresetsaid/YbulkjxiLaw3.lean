/-
  LawS0528BReset: what stands behind one Reset and behind two.
-/
import Derived.Test.YbulkjxiLaw2
namespace Go.Proofs.Ybulkjxi
open Go.RowKit Go.Maps
set_option linter.unusedSimpArgs false
set_option linter.unusedVariables false

theorem ResetTo.below {w2 w3 : World} {B b : Nat} {mo mo' : Option Nat} {f f' : Nat → Option Nat} {s s' : Nat → Nat} {Ss Ss' : Nat → List Nat} (R : ResetTo w2 w3 b mo f s Ss mo' f' s' Ss') (h : Bt w2 B b mo f s Ss) : Below B w2 w3 := by
  refine ⟨R.os, R.tape, R.output, R.size, fun k hk => ?_⟩
  rcases h with ⟨rfl, hBb, hc, hf⟩ | ⟨M, D, rfl, h⟩
  · have hbl := (Array.getElem?_eq_some_iff.1 hc).1
    exact R.block k (by omega) (by omega) (fun M hM => (by cases hM)) (fun i hi hx => (by rw [hf i hi] at hx; cases hx))
  · have hbl := (Array.getElem?_eq_some_iff.1 h.cell).1
    have h1 := h.hb
    have h2 := h.hM
    refine R.block k (by omega) (by omega) (fun M' hM => (by cases hM; omega)) (fun i hi hx hm => ?_)
    obtain ⟨q, hq⟩ := Option.isSome_iff_exists.1 hx
    have := (h.tab i q hi hq).2.2.2 k hm
    omega

theorem Arr.below {w w1 w2 : World} {f : Nat → Option Nat} {s : Nat → Nat} {i B : Nat} (A : Arr w1 w2 f s i) (h : Below B w w1) (hB : B ≤ w1.heap.size) : Below B w w2 :=
  h.trans ⟨A.os, A.tape, A.output, by rw [A.size]; omega, fun k hk => A.block k (by omega)⟩

theorem Bt.len {w : World} {B b : Nat} {mo : Option Nat} {f : Nat → Option Nat} {s : Nat → Nat} {Ss : Nat → List Nat} (h : Bt w B b mo f s Ss) : w.cell? ⟨b, 0, none⟩ = some (.map mo) ∧ ∀ ty, (Builtin.len_ #[23] ty #[.map mo]).run Yba.prog w = .ok (.int .i64 (cnt f 12)) w := by
  rcases h with ⟨rfl, _, hc, hnone⟩ | ⟨M, D, rfl, h⟩
  · exact ⟨cell_of_row _ _ 0 _ 25 (0, 0) hc, fun ty => by rw [cnt_none 12 hnone]; exact Maps.len_nil Yba.underlying23 ty⟩
  · exact ⟨cell_of_row _ _ 0 _ 25 (0, 0) h.cell, fun ty => by rw [← h.tm.size h.map]; exact h.map.len Yba.underlying23 ty⟩

theorem cnt_le {f f' : Nat → Option Nat} : ∀ n, (∀ i, i < n → (f' i).isSome = true → (f i).isSome = true) → cnt f' n ≤ cnt f n
  | 0, _ => Nat.le_refl _
  | n + 1, h => by
    have ih := cnt_le n (fun i hi => h i (by omega))
    have h1 := h n (by omega)
    rw [cnt_succ, cnt_succ]
    cases hx : (f' n).isSome
    · simp
      omega
    · rw [h1 hx]
      simp
      exact ih

theorem cnt_congr {f g : Nat → Option Nat} : ∀ n, (∀ i, i < n → f i = g i) → cnt f n = cnt g n
  | 0, _ => rfl
  | n + 1, h => by rw [cnt_succ, cnt_succ, cnt_congr n (fun i hi => h i (by omega)), h n (by omega)]

theorem twice_many {w2 w3 w4 : World} {b : Nat} {mo mo' mo'' : Option Nat} {f f' f'' : Nat → Option Nat} {s s' s'' : Nat → Nat} {Ss Ss' Ss'' : Nat → List Nat} (R : ResetTo w2 w3 b mo f s Ss mo' f' s' Ss') (R' : ResetTo w3 w4 b mo' f' s' Ss' mo'' f'' s'' Ss'') (h : 8 < cnt f 12) : mo'' = none := by
  obtain ⟨hm, hf⟩ := R.many h
  have h0 : cnt f' 12 = 0 := cnt_none 12 hf
  exact (R'.few (by omega)).1.trans hm

theorem twice_few {w2 w3 w4 : World} {b : Nat} {mo mo' mo'' : Option Nat} {f f' f'' : Nat → Option Nat} {s s' s'' : Nat → Nat} {Ss Ss' Ss'' : Nat → List Nat} (R : ResetTo w2 w3 b mo f s Ss mo' f' s' Ss') (R' : ResetTo w3 w4 b mo' f' s' Ss' mo'' f'' s'' Ss'') (h : ¬ 8 < cnt f 12) : cnt f'' 12 = cnt f' 12 := by
  obtain ⟨_, hf⟩ := R.few h
  have h1 : cnt f' 12 ≤ cnt f 12 := cnt_le 12 fun i hi hx => by
    rw [(hf i hi).1] at hx
    split at hx
    · exact hx
    · cases hx
  obtain ⟨_, hf'⟩ := R'.few (by omega)
  refine cnt_congr 12 fun i hi => ?_
  rw [(hf' i hi).1]
  cases hx : f' i with
  | none => simp
  | some p =>
    have h0 := (hf i hi).2 (by rw [hx]; rfl)
    rw [if_pos (by omega)]

end Go.Proofs.Ybulkjxi
