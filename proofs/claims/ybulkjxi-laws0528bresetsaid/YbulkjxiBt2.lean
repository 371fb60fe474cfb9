/-
  ByTable[int]: Table, Put.
-/
import Derived.Test.YbulkjxiBt
namespace Go.Proofs.Ybulkjxi
open Go.RowKit Go.Maps
set_option linter.unusedSimpArgs false
set_option linter.unusedVariables false

structure BtAt (w : World) (B b M : Nat) (D : DataW Unit) (f : Nat → Option Nat) (s : Nat → Nat) (Ss : Nat → List Nat) : Prop where
  cell : w.heap[b]? = some (.cells #[.map (some M)] 25)
  map : w.ownsMap Yba.prog 9 ptrElem M (Maps.size D) D
  tm : TabMap D f
  bM : b ≠ M
  hb : B ≤ b
  hM : B ≤ M
  tab : ∀ i p, i < 12 → f i = some p → Tab w p (s i) (Ss i) ∧ b ∉ Ss i ∧ M ∉ Ss i ∧ ∀ k ∈ Ss i, B ≤ k
  apart : ∀ i j, i < 12 → j < 12 → i ≠ j → (f i).isSome = true → (f j).isSome = true → ∀ k ∈ Ss i, k ∉ Ss j

def Bt (w : World) (B b : Nat) (mo : Option Nat) (f : Nat → Option Nat) (s : Nat → Nat) (Ss : Nat → List Nat) : Prop :=
  (mo = none ∧ B ≤ b ∧ w.heap[b]? = some (.cells #[.map none] 25) ∧ ∀ i, i < 12 → f i = none) ∨ ∃ M D, mo = some M ∧ BtAt w B b M D f s Ss

theorem zero29 (w : World) : (zeroValue 29).run Yba.prog w = .ok (.pointer none) w := by kernel_rfl
theorem key_name (i : Nat) : keyOf Yba.prog 9 (.string (nameOf i)) = some (nl i) := WideMaps.keyOf_string_mk (P := Yba.prog) Yba.underlying9 (by show (1 : Nat) ≤ maxLen; unfold maxLen; omega)

theorem look_tab {w : World} {M n : Nat} {D : DataW Unit} {f : Nat → Option Nat} (ho : w.ownsMap Yba.prog 9 ptrElem M n D) (h : TabMap D f) {i : Nat} (hi : i < 12) :
    (Instr.lookup 23 (.map (some M)) (.string (nameOf i)) false).run Yba.prog w = .ok (ptrVal (f i)) w := by
  obtain ⟨v, ps, hrun, hv⟩ := ho.lookup law9 Yba.underlying23 (zero29 w) (ptrElem_mk none) (key_name i)
  obtain ⟨o, rfl, hz⟩ := ptrElem_inv hv
  have e : ptrDat o = ptrDat (f i) := by rw [← h.at_ i hi]; exact (congrArg Prod.fst hz).symm
  rw [hrun, ptrDat_inj e]

theorem look_none (w : World) (i : Nat) : (Instr.lookup 23 (.map none) (.string (nameOf i)) false).run Yba.prog w = .ok (.pointer none) w :=
  Maps.look_nil false law9 Yba.underlying23 (zero29 w) (key_name i)

theorem table_any {w : World} {B b : Nat} {mo : Option Nat} {f : Nat → Option Nat} {s : Nat → Nat} {Ss : Nat → List Nat} (h : Bt w B b mo f s Ss) {i : Nat} (hi : i < 12) :
    Calls Yba.prog 5 #[.pointer (some ⟨b, 0, none⟩), .string (nameOf i)] w fun e w' => e = .returned (ptrVal (f i)) ∧ w = w' := by
  rcases h with ⟨rfl, hB, hc, hf⟩ | ⟨M, D, rfl, h⟩
  · have c0 : w.cell? ⟨b, 0, none⟩ = some (.map none) := cell_of_row _ _ 0 _ 25 (0, 0) hc
    have hl := look_none w i
    rw [hf i hi]
    obtain ⟨nm, hnm⟩ : ∃ nm, nm = nameOf i := ⟨_, rfl⟩
    rw [← hnm] at hl ⊢
    clear hc hnm hf
    go_enter Yba.func5, Yba.ntmps5
    go_wp2
    go_ret
    exact ⟨rfl, rfl⟩
  · have c0 : w.cell? ⟨b, 0, none⟩ = some (.map (some M)) := cell_of_row _ _ 0 _ 25 (0, 0) h.cell
    have hl := look_tab h.map h.tm hi
    obtain ⟨nm, hnm⟩ : ∃ nm, nm = nameOf i := ⟨_, rfl⟩
    obtain ⟨pv, hpv⟩ : ∃ pv, pv = ptrVal (f i) := ⟨_, rfl⟩
    rw [← hnm, ← hpv] at hl
    rw [← hnm, ← hpv]
    clear h hnm hpv
    go_enter Yba.func5, Yba.ntmps5
    go_wp2
    go_ret
    exact ⟨rfl, rfl⟩

/-- Table i put anew: its blocks S', all else as it was. -/
theorem bt_put {w w' : World} {B b M : Nat} {D : DataW Unit} {f : Nat → Option Nat} {s : Nat → Nat} {Ss : Nat → List Nat} (h : BtAt w B b M D f s Ss) {i p s' : Nat} {S' : List Nat} (hi : i < 12) (hf : f i = some p) (ht : Tab w' p s' S') (hfr : Fr w w' (Ss i) S') (hB : B ≤ w.heap.size) :
    BtAt w' B b M D f (fun j => if j = i then s' else s j) (fun j => if j = i then S' else Ss j) ∧ Below B w w' := by
  obtain ⟨t0, b0, m0, hi0⟩ := h.tab i p hi hf
  have hbl := (Array.getElem?_eq_some_iff.1 h.cell).1
  have hml := h.map.lt
  have hlt : ∀ j q, j < 12 → f j = some q → ∀ k ∈ Ss j, k < w.heap.size := fun j q hj hq k hk => by
    obtain ⟨⟨m, rv, n, T, D', t⟩, _⟩ := h.tab j q hj hq
    exact t.lt k hk
  refine ⟨⟨(hfr.block b hbl b0).trans h.cell, ownsMap_heap h.map (hfr.block M hml m0), h.tm, h.bM, h.hb, h.hM, fun j q hj hq => ?_, fun j k hj hk hjk fj fk x hx => ?_⟩, ⟨hfr.os, hfr.tape, hfr.output, hfr.size, fun k hk => hfr.block k (by omega) (fun hm => by have := hi0 k hm; omega)⟩⟩
  · by_cases e : j = i
    · subst e
      rw [hf] at hq
      cases hq
      simp only [if_pos]
      refine ⟨ht, fun hm => ?_, fun hm => ?_, fun k hk => ?_⟩
      · rcases hfr.own b hm with h1 | h1
        · exact b0 h1
        · omega
      · rcases hfr.own M hm with h1 | h1
        · exact m0 h1
        · omega
      · rcases hfr.own k hk with h1 | h1
        · exact hi0 k h1
        · omega
    · simp only [if_neg e]
      obtain ⟨t1, b1, m1, hi1⟩ := h.tab j q hj hq
      exact ⟨t1.blocks (fun k hk => hfr.block k (hlt j q hj hq k hk) (h.apart j i hj hi e (by rw [hq]; rfl) (by rw [hf]; rfl) k hk)) hfr.size, b1, m1, hi1⟩
  · have hnew : ∀ j q, j < 12 → f j = some q → j ≠ i → ∀ y ∈ S', y ∉ Ss j := fun j q hj hq hne y hy hy' => by
      rcases hfr.own y hy with h1 | h1
      · exact h.apart i j hi hj (fun e => hne e.symm) (by rw [hf]; rfl) (by rw [hq]; rfl) y h1 hy'
      · have := hlt j q hj hq y hy'
        omega
    obtain ⟨qj, hqj⟩ := Option.isSome_iff_exists.1 fj
    obtain ⟨qk, hqk⟩ := Option.isSome_iff_exists.1 fk
    by_cases ej : j = i
    · by_cases ek : k = i
      · exact absurd (ej.trans ek.symm) hjk
      · simp only [if_pos ej] at hx
        simp only [if_neg ek]
        exact hnew k qk hk hqk ek x hx
    · simp only [if_neg ej] at hx
      by_cases ek : k = i
      · simp only [if_pos ek]
        exact fun hx' => hnew j qj hj hqj ej x hx' hx
      · simp only [if_neg ek]
        exact h.apart j k hj hk hjk fj fk x hx

end Go.Proofs.Ybulkjxi
