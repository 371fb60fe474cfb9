/-
  slices.Insert of one item: all ways together.
-/
import Derived.Test.YbulkjxiIns
namespace Go.Proofs.Ybulkjxi
open Go.RowKit Go.Lib
set_option linter.unusedSimpArgs false
set_option linter.unusedVariables false

/-- A row of strings of its own. -/
def Strs (w : World) (v : Value) (n : Nat) : Prop := ∃ ss : List ByteArray, w.ownsRow 0 59 1 v n (ss.map Value.string)

/-- From v to v': what stands outside v's row is as it was; where v' lies. -/
structure Mov (w w' : World) (v v' : Value) : Prop where
  block : ∀ k, k < w.heap.size → v.ownBlock ≠ some k → w'.heap[k]? = w.heap[k]?
  lies : v'.ownBlock = v.ownBlock ∨ ∃ g, v'.ownBlock = some g ∧ w.heap.size ≤ g
  size : w.heap.size ≤ w'.heap.size
  os : w'.os = w.os
  tape : w'.tape = w.tape
  output : w'.output = w.output

theorem strings_of : ∀ (l : List Value), (∀ v ∈ l, ∃ s : ByteArray, v = .string s) → ∃ ss : List ByteArray, l = ss.map Value.string
  | [], _ => ⟨[], rfl⟩
  | v :: r, h => by
    obtain ⟨s, rfl⟩ := h v (by simp)
    obtain ⟨ss, rfl⟩ := strings_of r (fun u hu => h u (by simp [hu]))
    exact ⟨s :: ss, rfl⟩

theorem strs_of_cells {w : World} {g n c : Nat} {cur : Array Value} (hg : w.heap[g]? = some (.cells cur 59)) (hn : n ≤ c) (hc : cur.size = c) (hm : c ≤ maxLen) (h : ∀ j, j < n → ∃ s : ByteArray, w.cell? ⟨g, j, none⟩ = some (.string s)) : Strs w (.slice (some ⟨g, 0, none⟩) n c) n := by
  obtain ⟨ss, hss⟩ := strings_of (cur.toList.take n) (fun v hv => by
    obtain ⟨j, hj, rfl⟩ := List.mem_iff_getElem.1 hv
    simp at hj
    obtain ⟨s, hs⟩ := h j (by omega)
    rw [cell_of_row _ _ _ _ 59 (0, 0) hg, Array.getElem?_eq_getElem (by omega)] at hs
    exact ⟨s, by simpa using hs⟩)
  refine ⟨ss, ?_, .inr ⟨g, c, cur, rfl, Nat.zero_le _, hg, hn, hm, by omega, by rw [Nat.mul_one]; exact hss⟩⟩
  have := congrArg List.length hss
  simp at this
  simp
  omega

theorem Strs.cells {w : World} {a : Option Addr} {n m c : Nat} (h : Strs w (.slice a m c) n) : m = n ∧ n ≤ c ∧ c ≤ maxLen ∧ (a = none → n = 0 ∧ c = 0) ∧ ∀ x, a = some x → ∃ g cur, x = ⟨g, 0, none⟩ ∧ w.heap[g]? = some (.cells cur 59) ∧ cur.size = c ∧ ∀ j, j < n → ∃ s : ByteArray, w.cell? ⟨g, j, none⟩ = some (.string s) := by
  obtain ⟨ss, hl, h⟩ := h
  rcases h with ⟨h1, rfl⟩ | ⟨g, cap, cur, h1, _, hg, hn, hm, hs, ht⟩
  · injection h1 with e1 e2 e3
    subst e1 e2 e3
    exact ⟨rfl, Nat.le_refl _, by unfold maxLen; omega, fun _ => ⟨rfl, rfl⟩, fun x hx => by cases hx⟩
  · injection h1 with e1 e2 e3
    subst e1 e2 e3
    refine ⟨rfl, hn, hm, fun h => (by cases h), fun x hx => ?_⟩
    cases hx
    refine ⟨g, cur, rfl, hg, by omega, fun j hj => ?_⟩
    simp at hl
    refine ⟨ss[j]'(by omega), ?_⟩
    rw [cell_of_row _ _ _ _ 59 (0, 0) hg]
    rw [Nat.mul_one] at ht
    have : (cur.toList.take m)[j]? = (ss.map Value.string)[j]? := by rw [ht]
    rw [List.getElem?_take, if_pos hj] at this
    rw [← Array.getElem?_toList, this]
    simp [List.getElem?_map, List.getElem?_eq_getElem (show j < ss.length by omega)]

theorem setCells_block (g : Nat) : ∀ (vs : List Value) (o : Nat) (w : World) (cur : Array Value), w.heap[g]? = some (.cells cur 59) → ∃ cur', (w.setCells g o vs).heap[g]? = some (.cells cur' 59) ∧ cur'.size = cur.size
  | [], _, w, cur, h => ⟨cur, h, rfl⟩
  | v :: r, o, w, cur, h => by
    obtain ⟨cur', h', hs⟩ := setCells_block g r (o + 1) (w.setCell ⟨g, o, none⟩ v) _ (heap_setCell_same w g o cur 59 v h)
    exact ⟨cur', h', by simpa using hs⟩

theorem setCells_rest (g : Nat) : ∀ (vs : List Value) (o : Nat) (w : World), (w.setCells g o vs).heap.size = w.heap.size ∧ (w.setCells g o vs).os = w.os ∧ (w.setCells g o vs).tape = w.tape ∧ (w.setCells g o vs).output = w.output ∧ ∀ k, k ≠ g → (w.setCells g o vs).heap[k]? = w.heap[k]?
  | [], _, w => ⟨rfl, rfl, rfl, rfl, fun _ _ => rfl⟩
  | v :: r, o, w => by
    obtain ⟨h1, h2, h3, h4, h5⟩ := setCells_rest g r (o + 1) (w.setCell ⟨g, o, none⟩ v)
    refine ⟨h1.trans (by simp [World.setCell]), h2, h3, h4, fun k hk => (h5 k hk).trans (Below.heap_setCell w ⟨g, o, none⟩ v k hk)⟩

/-- slices.Insert of one item. -/
def Inserted (w : World) (v : Value) (n : Nat) (e : Ending) (w' : World) : Prop := ∃ g c, e = .returned (.slice (some ⟨g, 0, none⟩) (n + 1) c) ∧ Strs w' (.slice (some ⟨g, 0, none⟩) (n + 1) c) (n + 1) ∧ Mov w w' v (.slice (some ⟨g, 0, none⟩) (n + 1) c)

theorem ins_room {w : World} {b n c i vb : Nat} {x : ByteArray} (h : Strs w (.slice (some ⟨b, 0, none⟩) n c) n) (hi : i < n) (hr : n + 1 ≤ c) (hv : w.heap[vb]? = some (.cells #[.string x] 59)) (hne : vb ≠ b) :
    Calls Yba.prog 18 #[.slice (some ⟨b, 0, none⟩) n c, .int .i64 i, .slice (some ⟨vb, 0, none⟩) 1 1] w (Inserted w (.slice (some ⟨b, 0, none⟩) n c) n) := by
  obtain ⟨_, hnc, hm, _, hx⟩ := h.cells
  obtain ⟨g, cur, e, hg, hcur, hcs⟩ := hx _ rfl
  cases e
  have hcsz : cur.toList.length = c := by simpa using hcur
  have hs0 : ∀ j, j < c → (w.cell? ⟨b, j, none⟩).isSome = true := fun j hj => by rw [cell_of_row _ _ _ _ 59 (0, 0) hg, Array.getElem?_eq_getElem (by omega)]; rfl
  refine (ins_shift b n c i vb (cur.toList.take n) (.string x) w hi hr (by unfold maxLen at hm; omega) hne (by rw [List.length_take]; omega) ?_ (fun j hj => hs0 j (by omega)) (fun j _ => frozen_of_row _ _ _ _ 59 hg)
    (cell_of_row _ _ 0 _ 59 (0, 0) hv) ?_ rfl 59 59 1 c (by simp [World.shape?, hv]) (by simp [World.shape?, hg, hcur]) (by omega) (frozen_of_row _ _ _ _ 59 hv) (frozen_of_row _ _ _ _ 59 hv)).mono ?_
  · intro j u hu
    rw [List.getElem?_take] at hu
    split at hu
    · rw [cell_of_row _ _ _ _ 59 (0, 0) hg]; simpa using hu
    · cases hu
  · intro u hu
    obtain ⟨j, hj, rfl⟩ := List.mem_iff_getElem.1 hu
    simp at hj
    obtain ⟨s, hs⟩ := hcs j (by omega)
    rw [cell_of_row _ _ _ _ 59 (0, 0) hg, Array.getElem?_eq_getElem (by omega)] at hs
    simp at hs
    simp [hs, Value.oneCell']
  · rintro e w' ⟨rfl, rfl⟩
    have hdl : ((cur.toList.take n).drop i).length = n - i := by rw [List.length_drop, List.length_take]; omega
    obtain ⟨cur1, h1, s1⟩ := setCells_block b ((cur.toList.take n).drop i) (i + 1) w.drew cur hg
    obtain ⟨cur2, h2, s2⟩ := setCells_block b [.string x] i _ cur1 h1
    obtain ⟨p1, p2, p3, p4, p5⟩ := setCells_rest b ((cur.toList.take n).drop i) (i + 1) w.drew
    obtain ⟨q1, q2, q3, q4, q5⟩ := setCells_rest b [.string x] i (w.drew.setCells b (i + 1) ((cur.toList.take n).drop i))
    refine ⟨b, c, rfl, strs_of_cells h2 (by omega) (by omega) hm (fun j hj => ?_), ⟨fun k hk hn => (q5 k (fun e => hn (by rw [e]; rfl))).trans (p5 k (fun e => hn (by rw [e]; rfl))), .inl rfl, by rw [q1, p1]; exact Nat.le_refl _, q2.trans p2, q3.trans p3, q4.trans p4⟩⟩
    have hin : ∀ k, k < 1 → ((w.drew.setCells b (i + 1) ((cur.toList.take n).drop i)).cell? ⟨b, i + k, none⟩).isSome = true := fun k hk => by
      rw [cell_of_row _ _ _ _ 59 (0, 0) h1, Array.getElem?_eq_getElem (by omega)]; rfl
    by_cases hji : j = i
    · subst hji
      have := World.cell?_setCells_in b [.string x] j (w.drew.setCells b (j + 1) ((cur.toList.take n).drop j)) (by simpa using hin) 0 (by simp)
      exact ⟨x, by simpa using this⟩
    · rw [World.cell?_setCells_out b _ _ _ _ (fun _ _ => by simp; omega)]
      by_cases hlt : j < i
      · rw [World.cell?_setCells_out b _ _ _ _ (fun _ _ => by simp; omega)]
        exact hcs j (by omega)
      · have := World.cell?_setCells_in b ((cur.toList.take n).drop i) (i + 1) w.drew (fun k hk => hs0 _ (by omega)) (j - (i + 1)) (by omega)
        rw [show i + 1 + (j - (i + 1)) = j by omega] at this
        obtain ⟨s, hs⟩ := hcs (j - 1) (by omega)
        refine ⟨s, this.trans ?_⟩
        rw [cell_of_row _ _ _ _ 59 (0, 0) hg] at hs
        rw [← hs]
        simp [List.getElem_drop, show i + (j - (i + 1)) = j - 1 by omega, Array.getElem?_eq_getElem (show j - 1 < cur.size by omega)]

theorem ins_full {w : World} {b n i vb : Nat} {c : Nat} {x : ByteArray} (h : Strs w (.slice (some ⟨b, 0, none⟩) n c) n) (hi : i < n) (hn : n ≤ 1000) (hr : c < n + 1) (hv : w.heap[vb]? = some (.cells #[.string x] 59)) :
    Calls Yba.prog 18 #[.slice (some ⟨b, 0, none⟩) n c, .int .i64 i, .slice (some ⟨vb, 0, none⟩) 1 1] w (Inserted w (.slice (some ⟨b, 0, none⟩) n c) n) := by
  obtain ⟨_, hnc, hm, _, hx⟩ := h.cells
  obtain ⟨g, cur, e, hg, hcur, hcs⟩ := hx _ rfl
  cases e
  have hcsz : cur.toList.length = c := by simpa using hcur
  refine (ins_grow b n c i vb (cur.toList.take n) (.string x) w hi hnc hr (by omega) (by rw [List.length_take]; omega) ?_ (cell_of_row _ _ 0 _ 59 (0, 0) hv) ?_ rfl).mono ?_
  · intro j u hu
    rw [List.getElem?_take] at hu
    split at hu
    · rw [cell_of_row _ _ _ _ 59 (0, 0) hg]; simpa using hu
    · cases hu
  · intro u hu
    obtain ⟨j, hj, rfl⟩ := List.mem_iff_getElem.1 hu
    simp at hj
    obtain ⟨s, hs⟩ := hcs j (by omega)
    rw [cell_of_row _ _ _ _ 59 (0, 0) hg, Array.getElem?_eq_getElem (by omega)] at hs
    simp at hs
    simp [hs, Value.oneCell']
  · rintro e w' ⟨G, ROW, h1, h2, h3, h4, rfl, rfl⟩
    have hdl : ((cur.toList.take n).drop i).length = n - i := by rw [List.length_drop, List.length_take]; omega
    have hnew : (w.alloc (.cells ROW 59)).drew.heap[w.heap.size]? = some (.cells ROW 59) := heap_alloc_new w _
    obtain ⟨cur1, k1, s1⟩ := setCells_block w.heap.size [.string x] i _ ROW hnew
    obtain ⟨cur2, k2, s2⟩ := setCells_block w.heap.size ((cur.toList.take n).drop i) (i + 1) ((w.alloc (.cells ROW 59)).drew.setCells w.heap.size i [.string x]).drew cur1 k1
    obtain ⟨p1, p2, p3, p4, p5⟩ := setCells_rest w.heap.size [.string x] i (w.alloc (.cells ROW 59)).drew
    obtain ⟨q1, q2, q3, q4, q5⟩ := setCells_rest w.heap.size ((cur.toList.take n).drop i) (i + 1) ((w.alloc (.cells ROW 59)).drew.setCells w.heap.size i [.string x]).drew
    have hsz : (w.alloc (.cells ROW 59)).drew.heap.size = w.heap.size + 1 := World.size_alloc w _
    refine ⟨w.heap.size, G, rfl, strs_of_cells k2 h1 (by omega) h2 (fun j hj => ?_), ⟨fun k hk hn => (q5 k (by omega)).trans ((p5 k (by omega)).trans (Below.heap_alloc w _ k hk)), .inr ⟨_, rfl, Nat.le_refl _⟩, ?_, q2.trans p2, q3.trans p3, q4.trans p4⟩⟩
    · have hin : ∀ k, k < 1 → ((w.alloc (.cells ROW 59)).drew.cell? ⟨w.heap.size, i + k, none⟩).isSome = true := fun k hk => by
        rw [cell_of_row _ _ _ _ 59 (0, 0) hnew, Array.getElem?_eq_getElem (by omega)]; rfl
      have hout : ∀ k, k < n - i → (((w.alloc (.cells ROW 59)).drew.setCells w.heap.size i [.string x]).drew.cell? ⟨w.heap.size, i + 1 + k, none⟩).isSome = true := fun k hk => by
        have e : ((w.alloc (.cells ROW 59)).drew.setCells w.heap.size i [.string x]).drew.cell? ⟨w.heap.size, i + 1 + k, none⟩ = cur1[i + 1 + k]? := cell_of_row ((w.alloc (.cells ROW 59)).drew.setCells w.heap.size i [.string x]).drew w.heap.size (i + 1 + k) cur1 59 (0, 0) k1
        rw [e, Array.getElem?_eq_getElem (by omega)]; rfl
      by_cases hji : j ≤ i
      · rw [World.cell?_setCells_out _ _ _ _ _ (fun _ _ => by simp; omega)]
        by_cases hje : j = i
        · subst hje
          have := World.cell?_setCells_in w.heap.size [.string x] j (w.alloc (.cells ROW 59)).drew (by simpa using hin) 0 (by simp)
          exact ⟨x, by simpa using this⟩
        · have e : ((w.alloc (.cells ROW 59)).drew.setCells w.heap.size i [.string x]).drew.cell? ⟨w.heap.size, j, none⟩ = (w.alloc (.cells ROW 59)).drew.cell? ⟨w.heap.size, j, none⟩ := World.cell?_setCells_out w.heap.size [.string x] i (w.alloc (.cells ROW 59)).drew ⟨w.heap.size, j, none⟩ (fun _ _ => by simp; omega)
          rw [e, cell_of_row _ _ _ _ 59 (0, 0) hnew, h4 j (by omega)]
          obtain ⟨s, hs⟩ := hcs j (by omega)
          rw [cell_of_row _ _ _ _ 59 (0, 0) hg] at hs
          exact ⟨s, by rw [List.getElem?_take, if_pos (by omega)]; simpa using hs⟩
      · have := World.cell?_setCells_in w.heap.size ((cur.toList.take n).drop i) (i + 1) ((w.alloc (.cells ROW 59)).drew.setCells w.heap.size i [.string x]).drew (fun k hk => hout k (by omega)) (j - (i + 1)) (by omega)
        rw [show i + 1 + (j - (i + 1)) = j by omega] at this
        obtain ⟨s, hs⟩ := hcs (j - 1) (by omega)
        refine ⟨s, this.trans ?_⟩
        rw [cell_of_row _ _ _ _ 59 (0, 0) hg] at hs
        rw [← hs]
        simp [List.getElem_drop, show i + (j - (i + 1)) = j - 1 by omega, Array.getElem?_eq_getElem (show j - 1 < cur.size by omega)]
    · rw [q1]
      show w.heap.size ≤ ((w.alloc (.cells ROW 59)).drew.setCells w.heap.size i [.string x]).heap.size
      rw [p1, hsz]
      omega

end Go.Proofs.Ybulkjxi
