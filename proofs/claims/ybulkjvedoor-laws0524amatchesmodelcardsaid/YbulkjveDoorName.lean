/-
  zzs0524aname: '[]byte(base)', then the part that 'sel' picks, appended: by its contract.
-/
import Derived.Test.YbulkjveDoorBase
import Derived.Lib.AppendStr
import Derived.Laws.IdiomCopy
import Derived.Deep.QuietTactic
import Derived.BigQuiet
namespace Go.Proofs.YbulkjveDoor
open Go.RowKit
set_option linter.unusedSimpArgs false
set_option linter.unusedVariables false

theorem grownBy_setCells (b : Nat) : ∀ (vs : List Value) (o : Nat) (w : World), w.grownBy (w.setCells b o vs) (some b)
  | [], _, w => ⟨rfl, rfl, rfl, Nat.le_refl _, fun _ _ _ => rfl⟩
  | v :: r, o, w => by
    have ih := grownBy_setCells b r (o + 1) (w.setCell ⟨b, o, none⟩ v)
    have hs : (w.setCell ⟨b, o, none⟩ v).heap.size = w.heap.size := by simp [World.setCell]
    exact ⟨ih.os, ih.tape, ih.output, hs ▸ ih.size, fun k hk hne => (ih.block k (by omega) hne).trans (Below.heap_setCell w _ v k (fun e => hne (by rw [e])))⟩

theorem cells_of_row {w : World} {g : Nat} {cs : Array Value} {e : TypeId} {mk : Nat × Nat} {l : List UInt8} {rest : List Value} (hg : w.heap[g]? = some (.cells cs e mk))
    (hcs : cs.toList = (l.map fun b => Value.int .u8 b.toNat) ++ rest) : Cells w g 0 l := by
  intro j hj
  rw [Nat.zero_add, cell_of_row w g j cs e mk hg]
  rw [← Array.getElem?_toList, hcs, List.getElem?_append_left (by simpa using hj), List.getElem?_map, List.getElem?_eq_getElem hj]
  simp [List.getD, List.getElem?_eq_getElem hj]

theorem strCells_get (p : ByteArray) (j : Nat) (hj : j < p.size) : (Lib.strCells p)[j]? = some (.int .u8 (p.data.toList.getD j 0).toNat) := by
  have h : j < p.data.toList.length := hj
  unfold Lib.strCells
  rw [List.getElem?_map, List.getElem?_eq_getElem h]
  simp only [List.getD, List.getElem?_eq_getElem h]
  rfl

theorem info5 : (Ybad.prog.info? 5).map (fun i => (i.zero, i.size, i.bytes)) = some (some (.int .u8 0), 1, 1) := by kernel_rfl

theorem append_str (w : World) (g n cap : Nat) (l : List UInt8) (p : ByteArray) (ty : TypeId) (hl : l.length = n) (hcells : Cells w g 0 l) (hg : g < w.heap.size)
    (hall : ∀ j, j < cap → (w.cell? ⟨g, j, none⟩).isSome = true) (hfro : ∀ j, j < cap → w.frozen? ⟨g, j, none⟩ = false) (hn : n ≤ cap) (hsm : n + p.size ≤ 10000) :
    ∃ g' cap' w', (Builtin.append_ #[23, 9] ty #[.slice (some ⟨g, 0, none⟩) n cap, .string p]).run Ybad.prog w = .ok (.slice (some ⟨g', 0, none⟩) (n + p.size) cap') w' ∧
      Cells w' g' 0 (l ++ p.data.toList) ∧ n + p.size ≤ cap' ∧ (g' = g ∨ w.heap.size ≤ g') ∧ g' < w'.heap.size ∧ w.grownBy w' (some g) := by
  obtain ⟨i0, hi, hz0, hz1, hz2⟩ := info_parts info5
  have hpl : p.data.toList.length = p.size := rfl
  by_cases hroom : n + p.size ≤ cap
  · refine ⟨g, cap, w.setCells g n (Lib.strCells p), ?_, ?_, hroom, .inl rfl, ?_, grownBy_setCells g _ _ _⟩
    · have hf := Lib.run_firstCells_string (P := Ybad.prog) w 1 p
      have hst := run_storeCells_cells (P := Ybad.prog) g n (Lib.strCells p) 0 w (fun j hj => by rw [Lib.strCells_length] at hj; exact hall _ (by omega)) (fun j hj => by rw [Lib.strCells_length] at hj; exact hfro _ (by omega)) (Lib.strCells_oneCell p)
      simp only [Nat.add_zero] at hst
      simp [Builtin.append_, run_underlying Ybad.underlying23, run_underlying Ybad.underlying9, sizeOf, typeInfo, hi, hz1, Builtin.lenOf, hroom, hf, Addr.add_lit, hst]
    · intro j hj
      simp only [List.length_append] at hj
      by_cases hjn : j < n
      · rw [World.cell?_setCells_out g _ _ _ _ (fun _ _ => .inl (by simp; omega)), hcells j (by omega)]
        simp [List.getD, List.getElem?_append, hl, hjn]
      · have := World.cell?_setCells_in g (Lib.strCells p) n w (fun j hj => by rw [Lib.strCells_length] at hj; exact hall _ (by omega)) (j - n) (by rw [Lib.strCells_length]; omega)
        have e : 0 + j = n + (j - n) := by omega
        rw [e, this]
        have h2 := strCells_get p (j - n) (by omega)
        rw [List.getElem?_eq_getElem (by rw [Lib.strCells_length]; omega)] at h2
        rw [h2]
        simp [List.getD, List.getElem?_append, hl, hjn]
    · have := (grownBy_setCells g (Lib.strCells p) n w).size
      omega
  · have holds : ∀ j v, (l.map fun b => Value.int .u8 b.toNat)[j]? = some v → w.cell? ((⟨g, 0, none⟩ : Addr).add j) = some v := by
      intro j v hv
      have hjl : j < l.length := by
        rcases Nat.lt_or_ge j l.length with h | h
        · exact h
        · simp [List.getElem?_eq_none h] at hv
      have hadd : (⟨g, 0, none⟩ : Addr).add j = ⟨g, 0 + j, none⟩ := by unfold Addr.add; split <;> simp_all
      rw [hadd, hcells j hjl]
      simp [List.getElem?_eq_getElem hjl] at hv
      subst hv
      simp [List.getD, List.getElem?_eq_getElem hjl]
    have hr := Lib.run_append_grow_string (P := Ybad.prog) w 23 9 ty 5 i0 (.int .u8 0) Ybad.underlying23 Ybad.underlying9 hi hz0 ⟨g, 0, none⟩ n cap (l.map fun b => Value.int .u8 b.toNat) (by simp [hl, hz1]) holds p (by omega) (by omega)
      (growslice_fits (by omega) (by rw [hz2]; omega))
    refine ⟨_, _, _, hr, ?_, grownCap_ge _ _ _ _, .inr (Nat.le_refl _), by simp, ⟨rfl, rfl, rfl, by simp, fun k hk _ => heap_alloc_old w.drew _ hk⟩⟩
    refine cells_of_row (heap_alloc_new w.drew _) (rest := (Builtin.zeroCells (Value.int .u8 0).cells (grownCap w (n + p.size) cap 5 - (n + p.size))).toList) ?_
    simp only [Array.toList_append, List.map_append, List.append_assoc]
    rfl


/-- The block that the four parts lie in. -/
def partsObj : Obj := .cells #[.string ⟨#[95, 98, 117, 99, 107, 101, 116]⟩, .string ⟨#[95, 99, 111, 117, 110, 116]⟩, .string ⟨#[95, 115, 117, 109]⟩, .string ⟨#[95, 99, 114, 101, 97, 116, 101, 100]⟩] 46

def nameOf (s : ByteArray) (sel : Int) : ByteArray := if sel % 5 < 4 then ⟨(s.data.toList ++ partL (sel % 5).toNat).toArray⟩ else s

/-- What a name is: a slice of bytes of its own block, from the block's first cell on. -/
structure IsName (w : World) (g cap : Nat) (s : ByteArray) : Prop where
  cells : Cells w g 0 s.data.toList
  cap : s.size ≤ cap
  lt : g < w.heap.size
  small : s.size ≤ 4096

/-- '[]byte(s)' in a world that is at hand: the new row, and what was there. -/
theorem convert_facts (w : World) (s : ByteArray) : ∃ W cap, (convert 9 23 (.string s)).run Ybad.prog w = .ok (.slice (some ⟨w.heap.size, 0, none⟩) s.size cap) W ∧
    Cells W w.heap.size 0 s.data.toList ∧ (∀ j, j < cap → (W.cell? ⟨w.heap.size, j, none⟩).isSome = true) ∧ (∀ j, j < cap → W.frozen? ⟨w.heap.size, j, none⟩ = false) ∧ s.size ≤ cap ∧
    W.heap.size = w.heap.size + 1 ∧ Below w.heap.size w W := by
  have hnew := Lib.bytesWorld_at_new w 5 s
  have hge := grownCap_ge w s.size 0 5
  have hsz : (Lib.bytesCells w 5 s).size = grownCap w s.size 0 5 := by
    have : s.data.size = s.size := rfl
    simp [Lib.bytesCells, this]
    omega
  refine ⟨_, _, Lib.run_convert_string_bytes (P := Ybad.prog) w 9 23 5 s Ybad.underlying9 Ybad.underlying23 Ybad.underlying5, ?_, ?_, ?_, hge, Lib.bytesWorld_size w 5 s, ?_⟩
  · refine cells_of_row hnew (rest := List.replicate (grownCap w s.size 0 5 - s.size) (.int .u8 0)) ?_
    simp [Lib.bytesCells]
  · intro j hj
    rw [cell_of_row _ _ _ _ _ _ hnew, Array.getElem?_eq_getElem (by omega)]
    rfl
  · intro j hj
    simp [World.frozen?, hnew, hsz]
    omega
  · exact ⟨rfl, rfl, rfl, by rw [Lib.bytesWorld_size]; omega, fun k hk => Lib.bytesWorld_at_old w 5 s k hk⟩

theorem nameOf_hit {s : ByteArray} {sel : Int} {i : Nat} (h : sel % 5 = i) (hi : i < 4) : nameOf s sel = ⟨(s.data.toList ++ (partS i).data.toList).toArray⟩ := by
  unfold nameOf
  rw [if_pos (by omega), h]
  rfl

set_option maxHeartbeats 1000000 in
theorem name_any (s : ByteArray) (sel : Int) (w : World) (hs : s.size ≤ 1024) (h0 : 0 ≤ sel) (h1 : sel ≤ 255) :
    Calls Ybad.prog 5 #[.string s, .int .u8 sel] w fun e w' => ∃ g cap, e = .returned (.slice (some ⟨g, 0, none⟩) (nameOf s sel).size cap) ∧ IsName w' g cap (nameOf s sel) ∧ w.heap.size ≤ g ∧ Below w.heap.size w w' := by
  obtain ⟨W, cap, hcv, hcells, hall, hfro, hcap, hsz, hbel⟩ := convert_facts (w.alloc partsObj) s
  unfold partsObj at hcv hbel
  simp only [World.size_alloc] at hcv hcells hall hfro hsz hbel
  have hpc : ∀ i, i < 4 → W.cell? ⟨w.heap.size, i, none⟩ = some (.string (partS i)) := by
    intro i hi
    rw [hbel.cell (by simp), World.cell?_alloc_at _ _ _ _ rfl]
    match i, hi with
    | 0, _ => rfl
    | 1, _ => rfl
    | 2, _ => rfl
    | 3, _ => rfl
  have hbw : Below w.heap.size w W := ((Below.refl _ _).alloc (Nat.le_refl _) _).trans (hbel.mono (by simp))
  have fin : ∀ (i : Nat), i < 4 → sel % 5 = i → ∃ g' cap' w', (Builtin.append_ #[23, 9] 23 #[.slice (some ⟨w.heap.size + 1, 0, none⟩) s.size cap, .string (partS i)]).run Ybad.prog W = .ok (.slice (some ⟨g', 0, none⟩) (nameOf s sel).size cap') w' ∧
      IsName w' g' cap' (nameOf s sel) ∧ w.heap.size ≤ g' ∧ Below w.heap.size w w' := by
    intro i hi hsel
    have hps : (partS i).size ≤ 8 := by
      match i, hi with
      | 0, _ => exact (by decide : (partS 0).size ≤ 8)
      | 1, _ => exact (by decide : (partS 1).size ≤ 8)
      | 2, _ => exact (by decide : (partS 2).size ≤ 8)
      | 3, _ => exact (by decide : (partS 3).size ≤ 8)
    obtain ⟨g', cap', w', hr, hc', hcap', hg', hlt', hgr⟩ := append_str W (w.heap.size + 1) s.size cap s.data.toList (partS i) 23 rfl hcells (by omega) hall hfro hcap (by omega)
    have hn := nameOf_hit (s := s) hsel hi
    have hns : (nameOf s sel).size = s.size + (partS i).size := by
      rw [hn]
      show (s.data.toList ++ (partS i).data.toList).toArray.size = _
      rw [List.size_toArray, List.length_append]
      rfl
    refine ⟨g', cap', w', by rw [hns]; exact hr, ⟨by rw [hn]; simpa using hc', by omega, hlt', by omega⟩, by omega, hbw.grown hgr (by omega) (fun k hk => by cases hk; omega)⟩
  clear hall hfro hbel
  by_cases h4 : sel % 5 < 4
  · have hcase : sel % 5 = 0 ∨ sel % 5 = 1 ∨ sel % 5 = 2 ∨ sel % 5 = 3 := by omega
    rcases hcase with hr | hr | hr | hr
    · obtain ⟨g', cap', w', hrun, hN, hg', hB⟩ := fin 0 (by omega) hr
      have hp := hpc 0 (by omega)
      clear fin hpc hcells hbw
      go_enter Ybad.func5, Ybad.ntmps5
      go_wp2_with (first | (at_builtin; refine wpList_append_run rfl _ _ 23 9 rfl _ _ rfl rfl _ _ hrun ?_) | go_in)
      go_ret
      exact ⟨g', cap', rfl, hN, hg', hB⟩
    · obtain ⟨g', cap', w', hrun, hN, hg', hB⟩ := fin 1 (by omega) hr
      have hp := hpc 1 (by omega)
      clear fin hpc hcells hbw
      go_enter Ybad.func5, Ybad.ntmps5
      go_wp2_with (first | (at_builtin; refine wpList_append_run rfl _ _ 23 9 rfl _ _ rfl rfl _ _ hrun ?_) | go_in)
      go_ret
      exact ⟨g', cap', rfl, hN, hg', hB⟩
    · obtain ⟨g', cap', w', hrun, hN, hg', hB⟩ := fin 2 (by omega) hr
      have hp := hpc 2 (by omega)
      clear fin hpc hcells hbw
      go_enter Ybad.func5, Ybad.ntmps5
      go_wp2_with (first | (at_builtin; refine wpList_append_run rfl _ _ 23 9 rfl _ _ rfl rfl _ _ hrun ?_) | go_in)
      go_ret
      exact ⟨g', cap', rfl, hN, hg', hB⟩
    · obtain ⟨g', cap', w', hrun, hN, hg', hB⟩ := fin 3 (by omega) hr
      have hp := hpc 3 (by omega)
      clear fin hpc hcells hbw
      go_enter Ybad.func5, Ybad.ntmps5
      go_wp2_with (first | (at_builtin; refine wpList_append_run rfl _ _ 23 9 rfl _ _ rfl rfl _ _ hrun ?_) | go_in)
      go_ret
      exact ⟨g', cap', rfl, hN, hg', hB⟩
  · have hn : nameOf s sel = s := by unfold nameOf; rw [if_neg h4]
    rw [hn]
    have HN : IsName W (w.heap.size + 1) cap s := ⟨hcells, hcap, by omega, by omega⟩
    clear fin hpc hcells hn
    go_enter Ybad.func5, Ybad.ntmps5
    go_wp2
    go_ret
    exact ⟨w.heap.size + 1, cap, rfl, HN, by omega, hbw⟩

end Go.Proofs.YbulkjveDoor
