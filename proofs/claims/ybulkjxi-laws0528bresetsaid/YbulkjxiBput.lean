/-
  ByTable[int].Put.
-/
import Derived.Test.YbulkjxiBt2
namespace Go.Proofs.Ybulkjxi
open Go.RowKit Go.Maps
set_option linter.unusedSimpArgs false
set_option linter.unusedVariables false

theorem bt_born {w w2 : World} {B b M : Nat} {D : DataW Unit} {f : Nat → Option Nat} {s : Nat → Nat} {Ss : Nat → List Nat} (h : BtAt w B b M D f s Ss) {i n : Nat} (hi : i < 12) (hf : f i = none) (hB : B ≤ w.heap.size)
    (ho : w2.ownsMap Yba.prog 9 ptrElem M n (D.put (nl i) (ptrDat (some (w.heap.size + 1))))) (hg : (newW w).grownBy w2 (some M)) :
    BtAt w2 B b M (D.put (nl i) (ptrDat (some (w.heap.size + 1)))) (fun j => if j = i then some (w.heap.size + 1) else f j) (fun j => if j = i then 0 else s j) (fun j => if j = i then [w.heap.size + 1, w.heap.size] else Ss j) ∧ Below B w w2 := by
  obtain ⟨nt, nb, ns⟩ := new_tab w
  have hbl := (Array.getElem?_eq_some_iff.1 h.cell).1
  have hml := h.map.lt
  have blk : ∀ k, k < w.heap.size → k ≠ M → w2.heap[k]? = w.heap[k]? := fun k hk hne => (hg.block k (by omega) (fun e => hne (by injection e))).trans (nb k hk)
  have hlt : ∀ j q, j < 12 → f j = some q → ∀ k ∈ Ss j, k < w.heap.size := fun j q hj hq k hk => by
    obtain ⟨⟨m, rv, n, T, D', t⟩, _⟩ := h.tab j q hj hq
    exact t.lt k hk
  have hM := h.hM
  have hs := hg.size
  refine ⟨⟨(blk b hbl h.bM).trans h.cell, ownsMap_tight ho, h.tm.put h.map.isMap hi, h.bM, h.hb, h.hM, fun j q hj hq => ?_, fun j k hj hk hjk fj fk x hx => ?_⟩, ⟨hg.os, hg.tape, hg.output, by omega, fun k hk => blk k (by omega) (by omega)⟩⟩
  · by_cases e : j = i
    · subst e
      simp only [if_pos] at hq ⊢
      cases hq
      refine ⟨nt.blocks (fun k hk => hg.block k ?_ (fun e => ?_)) hs, ?_, ?_, fun k hk => ?_⟩
      · simp at hk; omega
      · injection e with e; simp at hk; omega
      · simp; omega
      · simp; omega
      · simp at hk; omega
    · simp only [if_neg e] at hq ⊢
      obtain ⟨t1, b1, m1, hi1⟩ := h.tab j q hj hq
      exact ⟨t1.blocks (fun k hk => blk k (hlt j q hj hq k hk) (fun e => m1 (by rw [← e]; exact hk))) (by omega), b1, m1, hi1⟩
  · by_cases ej : j = i
    · by_cases ek : k = i
      · exact absurd (ej.trans ek.symm) hjk
      · simp only [if_pos ej] at hx
        simp only [if_neg ek] at fk ⊢
        obtain ⟨qk, hqk⟩ := Option.isSome_iff_exists.1 fk
        intro hx'
        have := hlt k qk hk hqk x hx'
        simp at hx
        omega
    · simp only [if_neg ej] at hx fj
      by_cases ek : k = i
      · simp only [if_pos ek]
        intro hx'
        obtain ⟨qj, hqj⟩ := Option.isSome_iff_exists.1 fj
        have := hlt j qj hj hqj x hx
        simp at hx'
        omega
      · simp only [if_neg ek] at fk ⊢
        exact h.apart j k hj hk hjk fj fk x hx

theorem eqlSome23 (M : Nat) (w : World) : (binOp .eql 23 (.map (some M)) (.map none)).run Yba.prog w = .ok (.bool false) w := by kernel_rfl
theorem eqlNil23 (w : World) : (binOp .eql 23 (.map none) (.map none)).run Yba.prog w = .ok (.bool true) w := by kernel_rfl

/-- The end of a Put. -/
def Ended (w : World) (B b : Nat) (e : Ending) (w' : World) : Prop := (∃ x, e = .returned (.bool x)) ∧ ∃ mo f s Ss, Bt w' B b mo f s Ss ∧ Below B w w'

theorem iput_bt {w : World} {B b M : Nat} {D : DataW Unit} {f : Nat → Option Nat} {s : Nat → Nat} {Ss : Nat → List Nat} (h : BtAt w B b M D f s Ss) {i p : Nat} (hi : i < 12) (hf : f i = some p) (hB : B ≤ w.heap.size) (key : ByteArray) (v : Int) (hv : (Lit.int .i64 v).wf = true) (hkl : Lit.string key.data.toList ∈ keyLits) (hks : key.size ≤ maxLen) :
    Calls Yba.prog 9 #[.pointer (some ⟨p, 0, none⟩), .string key, .int .i64 v] w (Ended w B b) := by
  refine (iput_any (h.tab i p hi hf).1 key v hv hkl hks).mono ?_
  rintro e w' ⟨he, s', S', ht, hfr⟩
  obtain ⟨h1, h2⟩ := bt_put h hi hf ht hfr hB
  exact ⟨he, some M, f, _, _, .inr ⟨M, D, rfl, h1⟩, h2⟩

theorem Ended.of {w w' w'' : World} {B b : Nat} {e : Ending} (h : Ended w' B b e w'') (hb : Below B w w') : Ended w B b e w'' := by
  obtain ⟨he, mo, f, s, Ss, h1, h2⟩ := h
  exact ⟨he, mo, f, s, Ss, h1, hb.trans h2⟩

set_option maxHeartbeats 400000 in
theorem bput_old {w : World} {B b M : Nat} {D : DataW Unit} {f : Nat → Option Nat} {s : Nat → Nat} {Ss : Nat → List Nat} (h : BtAt w B b M D f s Ss) {i p : Nat} (hi : i < 12) (hf : f i = some p) (hB : B ≤ w.heap.size) (key : ByteArray) (v : Int) (hv : (Lit.int .i64 v).wf = true) (hkl : Lit.string key.data.toList ∈ keyLits) (hks : key.size ≤ maxLen) :
    Calls Yba.prog 4 #[.pointer (some ⟨b, 0, none⟩), .string (nameOf i), .string key, .int .i64 v] w (Ended w B b) := by
  have c0 : w.cell? ⟨b, 0, none⟩ = some (.map (some M)) := cell_of_row _ _ 0 _ 25 (0, 0) h.cell
  have hl := look_tab h.map h.tm hi
  rw [hf] at hl
  unfold ptrVal at hl
  have HI : Hid (Calls Yba.prog 9 #[.pointer (some ⟨p, 0, none⟩), .string key, .int .i64 v] w (Ended w B b)) := iput_bt h hi hf hB key v hv hkl hks
  obtain ⟨nm, hnm⟩ : ∃ nm, nm = nameOf i := ⟨_, rfl⟩
  rw [← hnm] at hl ⊢
  clear h hnm hkl hks hf hv
  have q23 : ∀ W : World, (binOp .eql 23 (.map (some M)) (.map none)).run Yba.prog W = .ok (.bool false) W := fun W => eqlSome23 M W
  go_enter Yba.func4, Yba.ntmps4
  go_wp2_with (go_at_call 9; refine HI.out.mono ?_; rintro e w' hfin; obtain ⟨x, rfl⟩ := hfin.1)
  go_ret
  exact hfin

set_option maxHeartbeats 400000 in
theorem bput_new {w : World} {B b M : Nat} {D : DataW Unit} {f : Nat → Option Nat} {s : Nat → Nat} {Ss : Nat → List Nat} (h : BtAt w B b M D f s Ss) {i : Nat} (hi : i < 12) (hf : f i = none) (hB : B ≤ w.heap.size) (key : ByteArray) (v : Int) (hv : (Lit.int .i64 v).wf = true) (hkl : Lit.string key.data.toList ∈ keyLits) (hks : key.size ≤ maxLen) :
    Calls Yba.prog 4 #[.pointer (some ⟨b, 0, none⟩), .string (nameOf i), .string key, .int .i64 v] w (Ended w B b) := by
  have hbl := (Array.getElem?_eq_some_iff.1 h.cell).1
  have hml := h.map.lt
  obtain ⟨nt, nb, ns⟩ := new_tab w
  have c0 : w.cell? ⟨b, 0, none⟩ = some (.map (some M)) := cell_of_row _ _ 0 _ 25 (0, 0) h.cell
  have c1 : (newW w).cell? ⟨b, 0, none⟩ = some (.map (some M)) := (World.cell?_of_block (a := ⟨b, 0, none⟩) (nb b hbl)).trans c0
  have hl := look_tab h.map h.tm hi
  rw [hf] at hl
  unfold ptrVal at hl
  have hown1 : (newW w).ownsMap Yba.prog 9 ptrElem M (Maps.size D) D := ownsMap_heap h.map (nb M hml)
  have hkey := key_name i
  have hsz : Maps.size D < maxLen := by
    rw [h.tm.size h.map]
    have : cnt f 12 ≤ 12 := by
      unfold cnt
      have := List.length_filter_le (fun i => (f i).isSome) (List.range 12)
      simpa using this
    unfold maxLen
    omega
  have HI : Hid (∀ w2, w2.ownsMap Yba.prog 9 ptrElem M (Maps.size D + 1) (D.put (nl i) (ptrDat (some (w.heap.size + 1)))) → (newW w).grownBy w2 (some M) → Calls Yba.prog 9 #[.pointer (some ⟨w.heap.size + 1, 0, none⟩), .string key, .int .i64 v] w2 (Ended w B b)) := fun w2 ho hg => by
    obtain ⟨h1, h2⟩ := bt_born h hi hf hB ho hg
    exact (iput_bt h1 hi (by simp) (Nat.le_trans hB h2.size) key v hv hkl hks).mono fun e w' he => he.of h2
  obtain ⟨nm, hnm⟩ : ∃ nm, nm = nameOf i := ⟨_, rfl⟩
  rw [← hnm] at hl hkey ⊢
  clear h hnm hkl hks hf hv nt nb ns
  have q23 : ∀ W : World, (binOp .eql 23 (.map (some M)) (.map none)).run Yba.prog W = .ok (.bool false) W := fun W => eqlSome23 M W
  go_enter Yba.func4, Yba.ntmps4
  go_wp2_with (first
    | (go_at_call 8; refine (new_any _).mono ?_; rintro e w' ⟨rfl, rfl⟩)
    | (at_mapUpdate; refine wpList_mapUpdate_own _ rfl _ _ _ 23 rfl 9 29 law9 Yba.underlying23 ptrElem M (Maps.size D) D rfl hown1 hsz _ _ (nl i) rfl rfl hkey (ptrDat (some (w.heap.size + 1))) [] (ptrElem_mk (some (w.heap.size + 1))) ?_; intro w2 hown2 hgr2; have HP := HI.out w2 hown2 hgr2)
    | (go_at_call 9; refine HP.mono ?_; rintro e w' hfin; obtain ⟨x, rfl⟩ := hfin.1))
  go_ret
  exact hfin

theorem bt_first {w : World} {B b : Nat} (hb : w.heap[b]? = some (.cells #[.map none] 25)) (hBb : B ≤ b) (hB : B ≤ w.heap.size) :
    BtAt ((w.setCell ⟨b, 0, none⟩ (.map (some w.heap.size))).alloc (.map #[] 0)) B b w.heap.size (.map []) (fun _ => none) (fun _ => 0) (fun _ => []) ∧ Below B w ((w.setCell ⟨b, 0, none⟩ (.map (some w.heap.size))).alloc (.map #[] 0)) := by
  have hbl := (Array.getElem?_eq_some_iff.1 hb).1
  have e0 := sc_size w ⟨b, 0, none⟩ (.map (some w.heap.size))
  refine ⟨⟨?_, ?_, tabMap_empty, by omega, hBb, hB, fun i p hi hf => (by cases hf), fun i j _ _ _ h => (by cases h)⟩, ⟨rfl, rfl, rfl, by simp [e0], fun k hk => ?_⟩⟩
  · rw [Below.heap_alloc _ _ _ (by omega)]
    exact sc_same 0 _ hb
  · have := World.ownsMap_made (w.setCell ⟨b, 0, none⟩ (.map (some w.heap.size))) Yba.prog 9 ptrElem
    rw [e0] at this
    exact this
  · rw [Below.heap_alloc _ _ _ (by omega), sc_other _ _ (by omega)]

set_option maxHeartbeats 400000 in
theorem bput_first {w0 : World} {B b : Nat} (hb : w0.heap[b]? = some (.cells #[.map none] 25)) (hBb : B ≤ b) {i : Nat} (hi : i < 12) (hB0 : B ≤ w0.heap.size) (key : ByteArray) (v : Int) (hv : (Lit.int .i64 v).wf = true) (hkl : Lit.string key.data.toList ∈ keyLits) (hks : key.size ≤ maxLen) :
    Calls Yba.prog 4 #[.pointer (some ⟨b, 0, none⟩), .string (nameOf i), .string key, .int .i64 v] w0 (Ended w0 B b) := by
  have b0 : w0.cell? ⟨b, 0, none⟩ = some (.map none) := cell_of_row _ _ 0 _ 25 (0, 0) hb
  have bf : w0.frozen? ⟨b, 0, none⟩ = false := frozen_of_row _ _ 0 _ 25 hb
  have b0l := (Array.getElem?_eq_some_iff.1 hb).1
  obtain ⟨hw, hBel⟩ := bt_first hb hBb hB0
  obtain ⟨w, hW⟩ : ∃ w, (w0.setCell ⟨b, 0, none⟩ (.map (some w0.heap.size))).alloc (.map #[] 0) = w := ⟨_, rfl⟩
  rw [hW] at hw hBel
  have h := hw
  have hB : B ≤ w.heap.size := Nat.le_trans hB0 hBel.size
  have hf : (fun _ : Nat => (none : Option Nat)) i = none := rfl
  have hbl := (Array.getElem?_eq_some_iff.1 h.cell).1
  have hml := h.map.lt
  obtain ⟨nt, nb, ns⟩ := new_tab w
  have c0 : w.cell? ⟨b, 0, none⟩ = some (.map (some w0.heap.size)) := cell_of_row _ _ 0 _ 25 (0, 0) h.cell
  have c1 : (newW w).cell? ⟨b, 0, none⟩ = some (.map (some w0.heap.size)) := (World.cell?_of_block (a := ⟨b, 0, none⟩) (nb b hbl)).trans c0
  have hl := look_tab h.map h.tm hi
  unfold ptrVal at hl
  have hmm := @run_makeMap Yba.prog
  have hown1 : (newW w).ownsMap Yba.prog 9 ptrElem w0.heap.size 0 (.map []) := ownsMap_heap h.map (nb _ hml)
  have hkey := key_name i
  have hsz : 0 < maxLen := by unfold maxLen; omega
  have HI : Hid (∀ w2, w2.ownsMap Yba.prog 9 ptrElem w0.heap.size (0 + 1) ((DataW.map []).put (nl i) (ptrDat (some (w.heap.size + 1)))) → (newW w).grownBy w2 (some w0.heap.size) → Calls Yba.prog 9 #[.pointer (some ⟨w.heap.size + 1, 0, none⟩), .string key, .int .i64 v] w2 (Ended w0 B b)) := fun w2 ho hg => by
    obtain ⟨h1, h2⟩ := bt_born h hi hf hB ho hg
    exact (iput_bt h1 hi (by simp) (Nat.le_trans hB h2.size) key v hv hkl hks).mono fun e w' he => (he.of h2).of hBel
  obtain ⟨nm, hnm⟩ : ∃ nm, nm = nameOf i := ⟨_, rfl⟩
  rw [← hnm] at hl hkey ⊢
  clear h hw hBel hnm hkl hks hf hv nt nb ns hb
  have q24 := eqlNil23
  have q23 : ∀ W : World, (binOp .eql 23 (.map (some w0.heap.size)) (.map none)).run Yba.prog W = .ok (.bool false) W := fun W => eqlSome23 _ W
  go_enter Yba.func4, Yba.ntmps4
  go_wp2_with (first
    | (go_at_call 8; refine (new_any _).mono ?_; rintro e w' ⟨rfl, rfl⟩)
    | (at_mapUpdate; refine wpList_mapUpdate_own _ rfl _ _ _ 23 rfl 9 29 law9 Yba.underlying23 ptrElem w0.heap.size 0 (.map []) rfl hown1 hsz _ _ (nl i) rfl rfl hkey (ptrDat (some (w.heap.size + 1))) [] (ptrElem_mk (some (w.heap.size + 1))) ?_; intro w2 hown2 hgr2; have HP := HI.out w2 hown2 hgr2)
    | (go_at_call 9; refine HP.mono ?_; rintro e w' hfin; obtain ⟨x, rfl⟩ := hfin.1))
  go_ret
  exact hfin

theorem bput_any {w : World} {B b : Nat} {mo : Option Nat} {f : Nat → Option Nat} {s : Nat → Nat} {Ss : Nat → List Nat} (h : Bt w B b mo f s Ss) {i : Nat} (hi : i < 12) (hB : B ≤ w.heap.size) (key : ByteArray) (v : Int) (hv : (Lit.int .i64 v).wf = true) (hkl : Lit.string key.data.toList ∈ keyLits) (hks : key.size ≤ maxLen) :
    Calls Yba.prog 4 #[.pointer (some ⟨b, 0, none⟩), .string (nameOf i), .string key, .int .i64 v] w (Ended w B b) := by
  rcases h with ⟨rfl, hBb, hc, hf⟩ | ⟨M, D, rfl, h⟩
  · exact bput_first hc hBb hi hB key v hv hkl hks
  · cases hf : f i with
    | none => exact bput_new h hi hf hB key v hv hkl hks
    | some p => exact bput_old h hi hf hB key v hv hkl hks

end Go.Proofs.Ybulkjxi
