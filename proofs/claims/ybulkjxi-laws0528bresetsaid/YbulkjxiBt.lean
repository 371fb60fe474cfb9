/-
  The tables by name (ByTable[int]): the invariant.
-/
import Derived.Test.YbulkjxiTab3
namespace Go.Proofs.Ybulkjxi
open Go.RowKit Go.Maps
set_option linter.unusedSimpArgs false
set_option linter.unusedVariables false

/-- How a pointer to a table reads. -/
def ptrElem : Value → Option (DataW Unit × List MemPlace)
  | .pointer none => some (.lit (.bool false), [])
  | .pointer (some ⟨p, 0, none⟩) => some (.lit (.int .i64 p), [])
  | _ => none

def ptrVal : Option Nat → Value
  | none => .pointer none
  | some p => .pointer (some ⟨p, 0, none⟩)
def ptrDat : Option Nat → DataW Unit
  | none => .lit (.bool false)
  | some p => .lit (.int .i64 p)

theorem ptrElem_mk (o : Option Nat) : ptrElem (ptrVal o) = some (ptrDat o, []) := by cases o <;> rfl
theorem ptrElem_inv {v : Value} {z : DataW Unit × List MemPlace} (h : ptrElem v = some z) : ∃ o, v = ptrVal o ∧ z = (ptrDat o, []) := by
  unfold ptrElem at h
  split at h
  · cases h; exact ⟨none, rfl, rfl⟩
  · cases h; exact ⟨some _, rfl, rfl⟩
  · cases h
theorem ptrDat_inj {a b : Option Nat} (h : ptrDat a = ptrDat b) : a = b := by
  cases a <;> cases b <;> simp [ptrDat] at h ⊢
  omega

def names : ByteArray := ⟨#[97, 98, 99, 100, 101, 102, 103, 104, 105, 106, 107, 108]⟩
def nameOf (i : Nat) : ByteArray := ⟨#[names.data.getD i 0]⟩
def nl (i : Nat) : Lit := .string (nameOf i).data.toList

theorem nl_inj : ∀ i j, i < 12 → j < 12 → nl i = nl j → i = j := by
  intro i j hi hj h
  have : ∀ a : Fin 12, ∀ b : Fin 12, (names.data.getD a.val 0) = (names.data.getD b.val 0) → a = b := by decide
  have h' : names.data.getD i 0 = names.data.getD j 0 := by simpa [nl, nameOf] using h
  have := this ⟨i, hi⟩ ⟨j, hj⟩ h'
  simpa using this

/-- The map of tables: what stands under each of the twelve names. -/
structure TabMap (D : DataW Unit) (f : Nat → Option Nat) : Prop where
  at_ : ∀ i, i < 12 → D.atKey (nl i) (ptrDat none) = ptrDat (f i)
  has : ∀ i, i < 12 → Maps.has D (nl i) = (f i).isSome
  only : ∀ kl, Maps.has D kl = true → ∃ i, i < 12 ∧ kl = nl i

def cnt (f : Nat → Option Nat) (k : Nat) : Nat := ((List.range k).filter fun i => (f i).isSome).length

theorem cnt_succ (f : Nat → Option Nat) (k : Nat) : cnt f (k + 1) = cnt f k + (if (f k).isSome then 1 else 0) := by
  unfold cnt
  rw [List.range_succ, List.filter_append, List.length_append]
  congr 1
  cases h : (f k).isSome <;> simp [h]

theorem nodup_map_nl : ∀ l : List Nat, l.Nodup → (∀ x ∈ l, x < 12) → (l.map nl).Nodup
  | [], _, _ => by simp
  | x :: r, hn, hl => by
    have hn' := List.nodup_cons.1 hn
    rw [List.map_cons, List.nodup_cons]
    refine ⟨fun hm => ?_, nodup_map_nl r hn'.2 (fun y hy => hl y (by simp [hy]))⟩
    obtain ⟨y, hy, e⟩ := List.mem_map.1 hm
    have := nl_inj y x (hl y (by simp [hy])) (hl x (by simp)) e
    exact hn'.1 (this ▸ hy)

theorem TabMap.size {w : World} {R : Value → Option (DataW Unit × List MemPlace)} {M n : Nat} {D : DataW Unit} {f : Nat → Option Nat} (h : TabMap D f) (ho : w.ownsMap Yba.prog 9 R M n D) : Maps.size D = cnt f 12 := by
  obtain ⟨es, rfl, hp, hkl⟩ := ho.entries law9
  rw [Maps.size_eq]
  have n1 : (es.map Prod.fst).Nodup := by rw [List.Nodup, List.pairwise_map]; exact hp
  have n2 : (((List.range 12).filter fun i => (f i).isSome).map nl).Nodup := nodup_map_nl _ (List.Pairwise.filter _ List.nodup_range) (fun x hx => by simp at hx; exact hx.1)
  have a1 := length_le_of_sub (es.map Prod.fst) (((List.range 12).filter fun i => (f i).isSome).map nl) n1 (fun x hx => by
    obtain ⟨p, hp', rfl⟩ := List.mem_map.1 hx
    have hh : Maps.has (.map es) p.1 = true := by rw [Maps.has_eq, List.any_eq_true]; exact ⟨p, hp', sameKey_self (hkl p hp')⟩
    obtain ⟨i, hi, e⟩ := h.only _ hh
    refine List.mem_map.2 ⟨i, ?_, e.symm⟩
    rw [List.mem_filter]
    refine ⟨List.mem_range.2 hi, ?_⟩
    rw [← h.has i hi, ← e]
    exact hh)
  have a2 := length_le_of_sub (((List.range 12).filter fun i => (f i).isSome).map nl) (es.map Prod.fst) n2 (fun x hx => by
    obtain ⟨i, hi, rfl⟩ := List.mem_map.1 hx
    rw [List.mem_filter] at hi
    have hh := h.has i (List.mem_range.1 hi.1)
    rw [hi.2, Maps.has_eq, List.any_eq_true] at hh
    obtain ⟨p, hp', hs⟩ := hh
    refine List.mem_map.2 ⟨p, hp', ?_⟩
    by_cases e : p.1 = nl i
    · exact e
    · rw [Maps.sameKey_ne e] at hs
      cases hs)
  simp at a1 a2
  unfold cnt
  omega

theorem tabMap_empty : TabMap (.map []) (fun _ => none) := ⟨fun _ _ => rfl, fun _ _ => rfl, fun kl h => by simp [Maps.has] at h⟩

theorem TabMap.put {D : DataW Unit} {f : Nat → Option Nat} (h : TabMap D f) (hm : IsMap D) {i p : Nat} (hi : i < 12) : TabMap (D.put (nl i) (ptrDat (some p))) (fun j => if j = i then some p else f j) := by
  refine ⟨fun j hj => ?_, fun j hj => ?_, fun kl hk => ?_⟩
  · by_cases e : j = i
    · subst e
      simp only [if_pos]
      exact Maps.atKey_put_same hm (isKey_string _) _ _
    · simp only [if_neg e]
      rw [Maps.atKey_put_other (fun h => e (nl_inj j i hj hi h))]
      exact h.at_ j hj
  · by_cases e : j = i
    · subst e
      simp only [if_pos]
      exact Maps.has_put_same hm (isKey_string _) _
    · simp only [if_neg e]
      rw [Maps.has_put_other (fun h => e (nl_inj j i hj hi h))]
      exact h.has j hj
  · by_cases e : kl = nl i
    · exact ⟨i, hi, e⟩
    · rw [Maps.has_put_other e] at hk
      exact h.only kl hk

theorem TabMap.del {D : DataW Unit} {f : Nat → Option Nat} (h : TabMap D f) {i : Nat} (hi : i < 12) : TabMap (D.del (nl i)) (fun j => if j = i then none else f j) := by
  refine ⟨fun j hj => ?_, fun j hj => ?_, fun kl hk => ?_⟩
  · by_cases e : j = i
    · subst e
      simp only [if_pos]
      exact Maps.atKey_del_same _
    · simp only [if_neg e]
      rw [Maps.atKey_del_other (fun h => e (nl_inj j i hj hi h))]
      exact h.at_ j hj
  · by_cases e : j = i
    · subst e
      simp only [if_pos]
      exact Maps.has_del_same
    · simp only [if_neg e]
      rw [Maps.has_del_other (fun h => e (nl_inj j i hj hi h))]
      exact h.has j hj
  · by_cases e : kl = nl i
    · rw [e, Maps.has_del_same] at hk
      cases hk
    · rw [Maps.has_del_other e] at hk
      exact h.only kl hk

end Go.Proofs.Ybulkjxi
