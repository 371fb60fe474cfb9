/-
  LawS0524AMatchesModel: the walk.
-/
import Derived.Test.YbulkjveDoorSeqWalk
namespace Go.Proofs.YbulkjveDoor
open Go.RowKit Go.Maps Go.WideMaps
set_option linter.unusedSimpArgs false
set_option linter.unusedVariables false

theorem bytesV_src {w : World} {g cap : Nat} {s : ByteArray} (hN : IsName w g cap s) {w1 : World} (hb : w1.heap[g]? = w.heap[g]?) : ∀ j u, (bytesV s)[j]? = some u → w1.cell? ((⟨g, 0, none⟩ : Addr).add j) = some u := by
  intro j u hu
  have hjl : j < s.data.toList.length := by
    rcases Nat.lt_or_ge j s.data.toList.length with h | h
    · exact h
    · simp [bytesV, List.getElem?_eq_none h] at hu
  have hadd : (⟨g, 0, none⟩ : Addr).add j = ⟨g, 0 + j, none⟩ := by unfold Addr.add; split <;> simp_all
  rw [hadd, (hN.cells.of_block hb) j hjl, ← hu]
  unfold bytesV
  rw [List.getElem?_map, List.getElem?_eq_getElem hjl]
  simp only [List.getD, List.getElem?_eq_getElem hjl]
  rfl

theorem bytesV_one (s : ByteArray) : ∀ u ∈ bytesV s, u.oneCell' = true := by
  intro u hu
  simp only [bytesV, List.mem_map] at hu
  obtain ⟨b, _, rfl⟩ := hu
  rfl

set_option maxHeartbeats 1000000 in
/-- bytes.Clone. -/
theorem clone_any {w : World} {g cap : Nat} {s : ByteArray} (hN : IsName w g cap s) :
    Calls Ybad.prog 6 #[.slice (some ⟨g, 0, none⟩) s.size cap] w fun e w' => ∃ v', e = .returned v' ∧ w'.ownsRow w.heap.size 5 1 v' s.size (bytesV s) ∧ Below w.heap.size w w' := by
  obtain ⟨i0, hi, hz0, hz1, hz2⟩ := info_parts info5
  have hsn : ∀ (W : World) (a : Option Addr) (n c : Nat), (binOp .eql 23 (.slice a n c) (.slice none 0 0)).run Ybad.prog W = .ok (.bool a.isNone) W := fun W a n c => Lib.run_eql_slice_nil W 23 5 a n c 0 0 Ybad.underlying23
  have hsm := hN.small
  have hown0 : (w.alloc (.cells #[] 5)).ownsRow w.heap.size 5 1 (.slice (some ⟨w.heap.size, 0, none⟩) 0 0) 0 [] := World.ownsRow_made w #[] 0 (Nat.le_refl _) (Nat.zero_le _) rfl
  obtain ⟨v', w1, hrun, hown1, hgr, _⟩ := run_append_own (P := Ybad.prog) (w.alloc (.cells #[] 5)) w.heap.size 23 23 5 i0 (.int .u8 0) 1 1 Ybad.underlying23 hi hz0 hz1 hz2 rfl (by decide) _ 0 [] hown0
    ⟨g, 0, none⟩ s.size cap (bytesV s) (by rw [bytesV, List.length_map, Nat.mul_one]; rfl) (bytesV_src hN (Below.heap_alloc w _ g hN.lt)) (bytesV_one s) (by unfold maxLen; omega) (by omega) (by simp)
  simp only [Nat.zero_add, List.nil_append] at hown1
  have hB : Below w.heap.size w w1 := ((Below.refl w.heap.size w).alloc (Nat.le_refl _) _).grown hgr (by simp) (fun k hk => by simp [Value.ownBlock] at hk; omega)
  clear hN hi hz0 hz1 hz2 hgr hown0
  go_enter Ybad.func6, Ybad.ntmps6
  go_wp2_with (at_builtin; refine wpList_append_run rfl _ _ 23 23 rfl _ _ rfl rfl _ _ hrun ?_)
  go_ret
  exact ⟨v', rfl, hown1, hB⟩

/-- All that the check asks, of the world behind the struct. -/
theorem ready2 {wr : World} {mb n : Nat} {D : DataW Unit} (hG : ∃ t fr, wr.heap[0]? = some (.cells partsArr t fr)) (hown : wr.ownsMap Ybad.prog 9 (plainElem (H := Unit) Ybad.prog 26) mb n D) :
    ∃ look, Env (wr.alloc (linesObj mb)) (wr.heap.size + 1) wr.heap.size mb look ∧ St (wr.alloc (linesObj mb)) (wr.heap.size + 1) wr.heap.size mb look (.slice none 0 0) ByteArray.empty false := by
  obtain ⟨look, hlook⟩ := mapIs_of_own hown
  obtain ⟨t, fr, hp⟩ := hG
  have h0 : 0 < wr.heap.size := (Array.getElem?_eq_some_iff.1 hp).1
  have hlt := hown.lt
  have blk : ∀ k, k < wr.heap.size → (wr.alloc (linesObj mb)).heap[k]? = wr.heap[k]? := fun k hk => Below.heap_alloc wr _ k hk
  refine ⟨look, ⟨by omega, by omega, by omega, by omega, by simp, ⟨t, fr, ?_⟩, hlook.of_block (blk _ hlt)⟩, st_new ?_⟩
  · rw [blk 0 h0]
    exact hp
  · rw [heap_alloc_new]

theorem IsName.below {w w' : World} {B g cap : Nat} {s : ByteArray} (h : IsName w g cap s) (hk : Below B w w') (hg : g < B) : IsName w' g cap s :=
  ⟨h.cells.of_block (hk.block g hg), h.cap, Nat.lt_of_lt_of_le h.lt hk.size, h.small⟩

theorem own_below {w w' : World} {C : Nat} {v : Value} {n : Nat} {xs : List Value} (h : w.ownsRow C 5 1 v n xs) (hb : ∀ k, k < w.heap.size → w'.heap[k]? = w.heap[k]?) : w'.ownsRow C 5 1 v n xs := by
  rcases h.2 with h2 | ⟨q, c, cur, h1, hq, hbq, hrest⟩
  · exact ⟨h.1, .inl h2⟩
  · exact ⟨h.1, .inr ⟨q, c, cur, h1, hq, (hb q (Array.getElem?_eq_some_iff.1 hbq).1).trans hbq, hrest⟩⟩

theorem ownsMap_blocks {w w' : World} {b n : Nat} {D : DataW Unit} (h : w.ownsMap Ybad.prog 9 (plainElem (H := Unit) Ybad.prog 26) b n D) (hb : ∀ k, k < w.heap.size → w'.heap[k]? = w.heap[k]?) :
    w'.ownsMap Ybad.prog 9 (plainElem (H := Unit) Ybad.prog 26) b n D := by
  obtain ⟨es, clock, hbb, F, hs, hD⟩ := h
  exact ⟨es, clock, (hb _ (Array.getElem?_eq_some_iff.1 hbb).1).trans hbb, F, hs, hD⟩

set_option maxHeartbeats 2000000 in
theorem match_some (A : ByteArray) (sa : Int) (b off len cap : Nat) (m1 m2 : Bool) (w : World) (hA : A.size ≤ 1024) (h1 : 0 ≤ sa) (h2 : sa ≤ 255) (hl : len ≤ 1024)
    (hG : ∃ t fr, w.heap[0]? = some (.cells partsArr t fr)) (hb : b < w.heap.size) (hT : ∀ j, j < len → ∃ s : ByteArray, s.size ≤ maxLen ∧ w.cell? ⟨b, off + j, none⟩ = some (.string s)) :
    Calls Ybad.prog 3 #[.string A, .int .u8 sa, .slice (some ⟨b, off, none⟩) len cap, .bool m1, .bool m2] w fun e w' => e = .returned (.bool true) ∧ Below w.heap.size w w' := by
  have hmm := @run_makeMap Ybad.prog
  go_enter Ybad.func3, Ybad.ntmps3
  go_wp2_with fail
  refine (name_any A sa _ hA h1 h2).mono ?_
  rintro e w1 ⟨g1, c1, rfl, hN1, hg1, hB1⟩
  have hT1 : ∀ j, j < len → ∃ s : ByteArray, s.size ≤ maxLen ∧ w1.cell? ⟨b, off + j, none⟩ = some (.string s) := fun j hj => by
    obtain ⟨s, hs, hc⟩ := hT j hj
    exact ⟨s, hs, (hB1.cell (by exact hb)).trans hc⟩
  have hb1 : b < w1.heap.size := Nat.lt_of_lt_of_le hb hB1.size
  clear hT
  go_wp2
  go_loopw [31] (fun i wr => ∃ k : Nat, k ≤ len ∧ i = .int .i64 k ∧ (∃ D, wr.ownsMap Ybad.prog 9 (plainElem (H := Unit) Ybad.prog 26) w1.heap.size k D) ∧ Below w1.heap.size w1 wr) (fun i _ => len - (intOf i).toNat)
  case atStart => exact ⟨0, Nat.zero_le _, rfl, ⟨_, World.ownsMap_made _ _ _ _⟩, (Below.refl _ _).alloc (Nat.le_refl _) _⟩
  case round =>
    obtain ⟨k, hk, rfl, ⟨D, hown⟩, hnx⟩ := hrel
    by_cases hlt : k < len
    · obtain ⟨s, hs, hcell⟩ := hT1 k hlt
      have hcx : wr.cell? ⟨b, off + k, none⟩ = some (.string s) := (hnx.cell (by exact hb1)).trans hcell
      have hkey : keyOf Ybad.prog 9 (.string s) = some (.string s.data.toList) := keyOf_string_mk Ybad.underlying9 hs
      clear hT1 hcell
      go_wp2_with (first
        | (at_mapUpdate; refine wpList_mapUpdate_own _ rfl _ _ _ 25 rfl 9 26 law Ybad.underlying25 _ w1.heap.size k _ rfl hown (by unfold maxLen; omega) _ _ _ rfl rfl hkey _ [] (plainElem_string Ybad.underlying26 (by decide)) ?_)
        | go_in)
      intro w2 hown1 hgrow1
      have R2 := hnx.grown hgrow1 hnx.size (fun j hj => by cases hj; exact Nat.le_refl _)
      clear hown hnx hgrow1 hcx hkey
      go_wp2
      go_roundw
      case rel => exact ⟨k + 1, by omega, by go_num, ⟨_, hown1⟩, R2⟩
      case measure => simp [intOf]; omega
    · clear hT1
      have hNr := hN1.below hnx hN1.lt
      have hsmS := hN1.small
      have hcv := (hNr.cells.reads (nameOf A sa).size c1 rfl) 9 Ybad.underlying9
      rw [show (⟨(nameOf A sa).data.toList.toArray⟩ : ByteArray) = nameOf A sa from ba_ext (by simp)] at hcv
      have hkS : keyOf Ybad.prog 9 (.string (nameOf A sa)) = some (.string (nameOf A sa).data.toList) := keyOf_string_mk Ybad.underlying9 (by unfold maxLen; omega)
      have hkA : keyOf Ybad.prog 9 (.string A) = some (.string A.data.toList) := keyOf_string_mk Ybad.underlying9 (by unfold maxLen; omega)
      clear hNr
      cases m1 <;> cases m2
      · have hNX := hN1.below hnx hN1.lt
        have hsX := hnx.size
        have hs1 := hB1.size
        have hgl := hN1.lt
        go_wp2_with fail
        refine (clone_any hNX).mono ?_
        rintro e w4 ⟨v4, rfl, hown4, hB4⟩
        have hG4 : ∃ t fr, w4.heap[0]? = some (.cells partsArr t fr) := by
          obtain ⟨t, fr, hp⟩ := hG
          have h0 : 0 < w.heap.size := (Array.getElem?_eq_some_iff.1 hp).1
          exact ⟨t, fr, (hB4.block 0 (by omega)).trans ((hnx.block 0 (by omega)).trans ((hB1.block 0 h0).trans hp))⟩
        have hmb := ownsMap_blocks hown (fun k hk => hB4.block k hk)
        obtain ⟨look, hE, hS⟩ := ready2 hG4 hmb
        have hs4 := hB4.size
        have hN4 : IsName (w4.alloc (linesObj w1.heap.size)) g1 c1 (nameOf A sa) := (hNX.below hB4 (by omega)).below (B := w4.heap.size) ((Below.refl w4.heap.size w4).alloc (Nat.le_refl _) _) (by omega)
        clear hown hmb hNX hkS hkA
        go_wp2_with fail
        refine (check_any hE hS hN4 (by omega) (by omega)).mono ?_
        rintro e w6 ⟨rfl, nv6, hS6, hK6⟩
        have hN6 := hN4.kept hK6 (by omega) (by omega)
        have hkeep : w6.ownsRow wr.heap.size 5 1 v4 (nameOf A sa).size (bytesV (nameOf A sa)) := own_below hown4 (fun k hk => (hK6.block k (by omega) (by omega)).trans (Below.heap_alloc w4 _ k hk))
        have r2 := own_reads hkeep
        have r1 : Reads w6 (.slice (some ⟨g1, 0, none⟩) (nameOf A sa).size c1) (nameOf A sa) := by
          have := hN6.cells.reads (nameOf A sa).size c1 rfl
          rwa [show (⟨(nameOf A sa).data.toList.toArray⟩ : ByteArray) = nameOf A sa from ba_ext (by simp)] at this
        have hfin : Below w.heap.size w w6 := hB1.trans ((hnx.mono hs1).trans ((hB4.mono (by omega)).trans (((Below.refl w.heap.size w4).alloc (by omega) (linesObj w1.heap.size)).trans (hK6.below (by omega) (by omega)))))
        clear hS hE hS6 hK6 hN4 hN6 hkeep hown4 hB4 hG4 hN1 hB1 hnx
        go_wp2_with (go_at_call 8; refine (equal_any' _ _ _ _ _ r1 r2).mono ?_; rintro e w' ⟨rfl, rfl⟩)
        go_ret
        exact ⟨by simp, hfin⟩
      · go_wp2_with (first | (at_mapUpdate; refine wpList_mapUpdate_own _ rfl _ _ _ 25 rfl 9 26 law Ybad.underlying25 _ w1.heap.size k _ rfl hown (by unfold maxLen; omega) _ _ _ rfl rfl hkA _ [] (plainElem_string Ybad.underlying26 (by decide)) ?_) | fail)
        intro w3 hown3 hgr3
        have hnx3 := hnx.grown hgr3 hnx.size (fun j hj => by cases hj; exact Nat.le_refl _)
        clear hgr3 hown hnx
        have hNX := hN1.below hnx3 hN1.lt
        have hsX := hnx3.size
        have hs1 := hB1.size
        have hgl := hN1.lt
        go_wp2_with fail
        refine (clone_any hNX).mono ?_
        rintro e w4 ⟨v4, rfl, hown4, hB4⟩
        have hG4 : ∃ t fr, w4.heap[0]? = some (.cells partsArr t fr) := by
          obtain ⟨t, fr, hp⟩ := hG
          have h0 : 0 < w.heap.size := (Array.getElem?_eq_some_iff.1 hp).1
          exact ⟨t, fr, (hB4.block 0 (by omega)).trans ((hnx3.block 0 (by omega)).trans ((hB1.block 0 h0).trans hp))⟩
        have hmb := ownsMap_blocks hown3 (fun k hk => hB4.block k hk)
        obtain ⟨look, hE, hS⟩ := ready2 hG4 hmb
        have hs4 := hB4.size
        have hN4 : IsName (w4.alloc (linesObj w1.heap.size)) g1 c1 (nameOf A sa) := (hNX.below hB4 (by omega)).below (B := w4.heap.size) ((Below.refl w4.heap.size w4).alloc (Nat.le_refl _) _) (by omega)
        clear hown3 hmb hNX hkS hkA
        go_wp2_with fail
        refine (check_any hE hS hN4 (by omega) (by omega)).mono ?_
        rintro e w6 ⟨rfl, nv6, hS6, hK6⟩
        have hN6 := hN4.kept hK6 (by omega) (by omega)
        have hkeep : w6.ownsRow w3.heap.size 5 1 v4 (nameOf A sa).size (bytesV (nameOf A sa)) := own_below hown4 (fun k hk => (hK6.block k (by omega) (by omega)).trans (Below.heap_alloc w4 _ k hk))
        have r2 := own_reads hkeep
        have r1 : Reads w6 (.slice (some ⟨g1, 0, none⟩) (nameOf A sa).size c1) (nameOf A sa) := by
          have := hN6.cells.reads (nameOf A sa).size c1 rfl
          rwa [show (⟨(nameOf A sa).data.toList.toArray⟩ : ByteArray) = nameOf A sa from ba_ext (by simp)] at this
        have hfin : Below w.heap.size w w6 := hB1.trans ((hnx3.mono hs1).trans ((hB4.mono (by omega)).trans (((Below.refl w.heap.size w4).alloc (by omega) (linesObj w1.heap.size)).trans (hK6.below (by omega) (by omega)))))
        clear hS hE hS6 hK6 hN4 hN6 hkeep hown4 hB4 hG4 hN1 hB1 hnx3
        go_wp2_with (go_at_call 8; refine (equal_any' _ _ _ _ _ r1 r2).mono ?_; rintro e w' ⟨rfl, rfl⟩)
        go_ret
        exact ⟨by simp, hfin⟩
      · go_wp2_with (first | (at_mapUpdate; refine wpList_mapUpdate_own _ rfl _ _ _ 25 rfl 9 26 law Ybad.underlying25 _ w1.heap.size k _ rfl hown (by unfold maxLen; omega) _ _ _ rfl rfl hkS _ [] (plainElem_string Ybad.underlying26 (by decide)) ?_) | fail)
        intro w2 hown2 hgr2
        have hnx2 := hnx.grown hgr2 hnx.size (fun j hj => by cases hj; exact Nat.le_refl _)
        clear hcv hgr2 hown hnx
        have hNX := hN1.below hnx2 hN1.lt
        have hsX := hnx2.size
        have hs1 := hB1.size
        have hgl := hN1.lt
        go_wp2_with fail
        refine (clone_any hNX).mono ?_
        rintro e w4 ⟨v4, rfl, hown4, hB4⟩
        have hG4 : ∃ t fr, w4.heap[0]? = some (.cells partsArr t fr) := by
          obtain ⟨t, fr, hp⟩ := hG
          have h0 : 0 < w.heap.size := (Array.getElem?_eq_some_iff.1 hp).1
          exact ⟨t, fr, (hB4.block 0 (by omega)).trans ((hnx2.block 0 (by omega)).trans ((hB1.block 0 h0).trans hp))⟩
        have hmb := ownsMap_blocks hown2 (fun k hk => hB4.block k hk)
        obtain ⟨look, hE, hS⟩ := ready2 hG4 hmb
        have hs4 := hB4.size
        have hN4 : IsName (w4.alloc (linesObj w1.heap.size)) g1 c1 (nameOf A sa) := (hNX.below hB4 (by omega)).below (B := w4.heap.size) ((Below.refl w4.heap.size w4).alloc (Nat.le_refl _) _) (by omega)
        clear hown2 hmb hNX hkS hkA
        go_wp2_with fail
        refine (check_any hE hS hN4 (by omega) (by omega)).mono ?_
        rintro e w6 ⟨rfl, nv6, hS6, hK6⟩
        have hN6 := hN4.kept hK6 (by omega) (by omega)
        have hkeep : w6.ownsRow w2.heap.size 5 1 v4 (nameOf A sa).size (bytesV (nameOf A sa)) := own_below hown4 (fun k hk => (hK6.block k (by omega) (by omega)).trans (Below.heap_alloc w4 _ k hk))
        have r2 := own_reads hkeep
        have r1 : Reads w6 (.slice (some ⟨g1, 0, none⟩) (nameOf A sa).size c1) (nameOf A sa) := by
          have := hN6.cells.reads (nameOf A sa).size c1 rfl
          rwa [show (⟨(nameOf A sa).data.toList.toArray⟩ : ByteArray) = nameOf A sa from ba_ext (by simp)] at this
        have hfin : Below w.heap.size w w6 := hB1.trans ((hnx2.mono hs1).trans ((hB4.mono (by omega)).trans (((Below.refl w.heap.size w4).alloc (by omega) (linesObj w1.heap.size)).trans (hK6.below (by omega) (by omega)))))
        clear hS hE hS6 hK6 hN4 hN6 hkeep hown4 hB4 hG4 hN1 hB1 hnx2
        go_wp2_with (go_at_call 8; refine (equal_any' _ _ _ _ _ r1 r2).mono ?_; rintro e w' ⟨rfl, rfl⟩)
        go_ret
        exact ⟨by simp, hfin⟩
      · go_wp2_with (first | (at_mapUpdate; refine wpList_mapUpdate_own _ rfl _ _ _ 25 rfl 9 26 law Ybad.underlying25 _ w1.heap.size k _ rfl hown (by unfold maxLen; omega) _ _ _ rfl rfl hkS _ [] (plainElem_string Ybad.underlying26 (by decide)) ?_) | fail)
        intro w2 hown2 hgr2
        have hnx2 := hnx.grown hgr2 hnx.size (fun j hj => by cases hj; exact Nat.le_refl _)
        clear hcv hgr2 hown hnx
        go_wp2_with (first | (at_mapUpdate; refine wpList_mapUpdate_own _ rfl _ _ _ 25 rfl 9 26 law Ybad.underlying25 _ w1.heap.size (k + 1) _ rfl hown2 (by unfold maxLen; omega) _ _ _ rfl rfl hkA _ [] (plainElem_string Ybad.underlying26 (by decide)) ?_) | fail)
        intro w3 hown3 hgr3
        have hnx3 := hnx2.grown hgr3 hnx2.size (fun j hj => by cases hj; exact Nat.le_refl _)
        clear hgr3 hown2 hnx2
        have hNX := hN1.below hnx3 hN1.lt
        have hsX := hnx3.size
        have hs1 := hB1.size
        have hgl := hN1.lt
        go_wp2_with fail
        refine (clone_any hNX).mono ?_
        rintro e w4 ⟨v4, rfl, hown4, hB4⟩
        have hG4 : ∃ t fr, w4.heap[0]? = some (.cells partsArr t fr) := by
          obtain ⟨t, fr, hp⟩ := hG
          have h0 : 0 < w.heap.size := (Array.getElem?_eq_some_iff.1 hp).1
          exact ⟨t, fr, (hB4.block 0 (by omega)).trans ((hnx3.block 0 (by omega)).trans ((hB1.block 0 h0).trans hp))⟩
        have hmb := ownsMap_blocks hown3 (fun k hk => hB4.block k hk)
        obtain ⟨look, hE, hS⟩ := ready2 hG4 hmb
        have hs4 := hB4.size
        have hN4 : IsName (w4.alloc (linesObj w1.heap.size)) g1 c1 (nameOf A sa) := (hNX.below hB4 (by omega)).below (B := w4.heap.size) ((Below.refl w4.heap.size w4).alloc (Nat.le_refl _) _) (by omega)
        clear hown3 hmb hNX hkS hkA
        go_wp2_with fail
        refine (check_any hE hS hN4 (by omega) (by omega)).mono ?_
        rintro e w6 ⟨rfl, nv6, hS6, hK6⟩
        have hN6 := hN4.kept hK6 (by omega) (by omega)
        have hkeep : w6.ownsRow w3.heap.size 5 1 v4 (nameOf A sa).size (bytesV (nameOf A sa)) := own_below hown4 (fun k hk => (hK6.block k (by omega) (by omega)).trans (Below.heap_alloc w4 _ k hk))
        have r2 := own_reads hkeep
        have r1 : Reads w6 (.slice (some ⟨g1, 0, none⟩) (nameOf A sa).size c1) (nameOf A sa) := by
          have := hN6.cells.reads (nameOf A sa).size c1 rfl
          rwa [show (⟨(nameOf A sa).data.toList.toArray⟩ : ByteArray) = nameOf A sa from ba_ext (by simp)] at this
        have hfin : Below w.heap.size w w6 := hB1.trans ((hnx3.mono hs1).trans ((hB4.mono (by omega)).trans (((Below.refl w.heap.size w4).alloc (by omega) (linesObj w1.heap.size)).trans (hK6.below (by omega) (by omega)))))
        clear hS hE hS6 hK6 hN4 hN6 hkeep hown4 hB4 hG4 hN1 hB1 hnx3
        go_wp2_with (go_at_call 8; refine (equal_any' _ _ _ _ _ r1 r2).mono ?_; rintro e w' ⟨rfl, rfl⟩)
        go_ret
        exact ⟨by simp, hfin⟩

set_option maxHeartbeats 2000000 in
/-- No strings: a nil slice too. -/
theorem match_none (A : ByteArray) (sa : Int) (a : Option Addr) (cap : Nat) (m1 m2 : Bool) (w : World) (hA : A.size ≤ 1024) (h1 : 0 ≤ sa) (h2 : sa ≤ 255)
    (hG : ∃ t fr, w.heap[0]? = some (.cells partsArr t fr)) :
    Calls Ybad.prog 3 #[.string A, .int .u8 sa, .slice a 0 cap, .bool m1, .bool m2] w fun e w' => e = .returned (.bool true) ∧ Below w.heap.size w w' := by
  have hmm := @run_makeMap Ybad.prog
  go_enter Ybad.func3, Ybad.ntmps3
  go_wp2_with fail
  refine (name_any A sa _ hA h1 h2).mono ?_
  rintro e w1 ⟨g1, c1, rfl, hN1, hg1, hB1⟩
  go_wp2
  go_loopw [31] (fun i wr => i = .int .i64 0 ∧ (∃ D, wr.ownsMap Ybad.prog 9 (plainElem (H := Unit) Ybad.prog 26) w1.heap.size 0 D) ∧ Below w1.heap.size w1 wr) (fun i _ => 0)
  case atStart => exact ⟨rfl, ⟨_, World.ownsMap_made _ _ _ _⟩, (Below.refl _ _).alloc (Nat.le_refl _) _⟩
  case round =>
    obtain ⟨rfl, ⟨D, hown⟩, hnx⟩ := hrel
    have hNr := hN1.below hnx hN1.lt
    have hsmS := hN1.small
    have hcv := (hNr.cells.reads (nameOf A sa).size c1 rfl) 9 Ybad.underlying9
    rw [show (⟨(nameOf A sa).data.toList.toArray⟩ : ByteArray) = nameOf A sa from ba_ext (by simp)] at hcv
    have hkS : keyOf Ybad.prog 9 (.string (nameOf A sa)) = some (.string (nameOf A sa).data.toList) := keyOf_string_mk Ybad.underlying9 (by unfold maxLen; omega)
    have hkA : keyOf Ybad.prog 9 (.string A) = some (.string A.data.toList) := keyOf_string_mk Ybad.underlying9 (by unfold maxLen; omega)
    clear hNr
    cases m1 <;> cases m2
    · have hNX := hN1.below hnx hN1.lt
      have hsX := hnx.size
      have hs1 := hB1.size
      have hgl := hN1.lt
      go_wp2_with fail
      refine (clone_any hNX).mono ?_
      rintro e w4 ⟨v4, rfl, hown4, hB4⟩
      have hG4 : ∃ t fr, w4.heap[0]? = some (.cells partsArr t fr) := by
        obtain ⟨t, fr, hp⟩ := hG
        have h0 : 0 < w.heap.size := (Array.getElem?_eq_some_iff.1 hp).1
        exact ⟨t, fr, (hB4.block 0 (by omega)).trans ((hnx.block 0 (by omega)).trans ((hB1.block 0 h0).trans hp))⟩
      have hmb := ownsMap_blocks hown (fun k hk => hB4.block k hk)
      obtain ⟨look, hE, hS⟩ := ready2 hG4 hmb
      have hs4 := hB4.size
      have hN4 : IsName (w4.alloc (linesObj w1.heap.size)) g1 c1 (nameOf A sa) := (hNX.below hB4 (by omega)).below (B := w4.heap.size) ((Below.refl w4.heap.size w4).alloc (Nat.le_refl _) _) (by omega)
      clear hown hmb hNX hkS hkA
      go_wp2_with fail
      refine (check_any hE hS hN4 (by omega) (by omega)).mono ?_
      rintro e w6 ⟨rfl, nv6, hS6, hK6⟩
      have hN6 := hN4.kept hK6 (by omega) (by omega)
      have hkeep : w6.ownsRow wr.heap.size 5 1 v4 (nameOf A sa).size (bytesV (nameOf A sa)) := own_below hown4 (fun k hk => (hK6.block k (by omega) (by omega)).trans (Below.heap_alloc w4 _ k hk))
      have r2 := own_reads hkeep
      have r1 : Reads w6 (.slice (some ⟨g1, 0, none⟩) (nameOf A sa).size c1) (nameOf A sa) := by
        have := hN6.cells.reads (nameOf A sa).size c1 rfl
        rwa [show (⟨(nameOf A sa).data.toList.toArray⟩ : ByteArray) = nameOf A sa from ba_ext (by simp)] at this
      have hfin : Below w.heap.size w w6 := hB1.trans ((hnx.mono hs1).trans ((hB4.mono (by omega)).trans (((Below.refl w.heap.size w4).alloc (by omega) (linesObj w1.heap.size)).trans (hK6.below (by omega) (by omega)))))
      clear hS hE hS6 hK6 hN4 hN6 hkeep hown4 hB4 hG4 hN1 hB1 hnx
      go_wp2_with (go_at_call 8; refine (equal_any' _ _ _ _ _ r1 r2).mono ?_; rintro e w' ⟨rfl, rfl⟩)
      go_ret
      exact ⟨by simp, hfin⟩
    · go_wp2_with (first | (at_mapUpdate; refine wpList_mapUpdate_own _ rfl _ _ _ 25 rfl 9 26 law Ybad.underlying25 _ w1.heap.size 0 _ rfl hown (by unfold maxLen; omega) _ _ _ rfl rfl hkA _ [] (plainElem_string Ybad.underlying26 (by decide)) ?_) | fail)
      intro w3 hown3 hgr3
      have hnx3 := hnx.grown hgr3 hnx.size (fun j hj => by cases hj; exact Nat.le_refl _)
      clear hgr3 hown hnx
      have hNX := hN1.below hnx3 hN1.lt
      have hsX := hnx3.size
      have hs1 := hB1.size
      have hgl := hN1.lt
      go_wp2_with fail
      refine (clone_any hNX).mono ?_
      rintro e w4 ⟨v4, rfl, hown4, hB4⟩
      have hG4 : ∃ t fr, w4.heap[0]? = some (.cells partsArr t fr) := by
        obtain ⟨t, fr, hp⟩ := hG
        have h0 : 0 < w.heap.size := (Array.getElem?_eq_some_iff.1 hp).1
        exact ⟨t, fr, (hB4.block 0 (by omega)).trans ((hnx3.block 0 (by omega)).trans ((hB1.block 0 h0).trans hp))⟩
      have hmb := ownsMap_blocks hown3 (fun k hk => hB4.block k hk)
      obtain ⟨look, hE, hS⟩ := ready2 hG4 hmb
      have hs4 := hB4.size
      have hN4 : IsName (w4.alloc (linesObj w1.heap.size)) g1 c1 (nameOf A sa) := (hNX.below hB4 (by omega)).below (B := w4.heap.size) ((Below.refl w4.heap.size w4).alloc (Nat.le_refl _) _) (by omega)
      clear hown3 hmb hNX hkS hkA
      go_wp2_with fail
      refine (check_any hE hS hN4 (by omega) (by omega)).mono ?_
      rintro e w6 ⟨rfl, nv6, hS6, hK6⟩
      have hN6 := hN4.kept hK6 (by omega) (by omega)
      have hkeep : w6.ownsRow w3.heap.size 5 1 v4 (nameOf A sa).size (bytesV (nameOf A sa)) := own_below hown4 (fun k hk => (hK6.block k (by omega) (by omega)).trans (Below.heap_alloc w4 _ k hk))
      have r2 := own_reads hkeep
      have r1 : Reads w6 (.slice (some ⟨g1, 0, none⟩) (nameOf A sa).size c1) (nameOf A sa) := by
        have := hN6.cells.reads (nameOf A sa).size c1 rfl
        rwa [show (⟨(nameOf A sa).data.toList.toArray⟩ : ByteArray) = nameOf A sa from ba_ext (by simp)] at this
      have hfin : Below w.heap.size w w6 := hB1.trans ((hnx3.mono hs1).trans ((hB4.mono (by omega)).trans (((Below.refl w.heap.size w4).alloc (by omega) (linesObj w1.heap.size)).trans (hK6.below (by omega) (by omega)))))
      clear hS hE hS6 hK6 hN4 hN6 hkeep hown4 hB4 hG4 hN1 hB1 hnx3
      go_wp2_with (go_at_call 8; refine (equal_any' _ _ _ _ _ r1 r2).mono ?_; rintro e w' ⟨rfl, rfl⟩)
      go_ret
      exact ⟨by simp, hfin⟩
    · go_wp2_with (first | (at_mapUpdate; refine wpList_mapUpdate_own _ rfl _ _ _ 25 rfl 9 26 law Ybad.underlying25 _ w1.heap.size 0 _ rfl hown (by unfold maxLen; omega) _ _ _ rfl rfl hkS _ [] (plainElem_string Ybad.underlying26 (by decide)) ?_) | fail)
      intro w2 hown2 hgr2
      have hnx2 := hnx.grown hgr2 hnx.size (fun j hj => by cases hj; exact Nat.le_refl _)
      clear hcv hgr2 hown hnx
      have hNX := hN1.below hnx2 hN1.lt
      have hsX := hnx2.size
      have hs1 := hB1.size
      have hgl := hN1.lt
      go_wp2_with fail
      refine (clone_any hNX).mono ?_
      rintro e w4 ⟨v4, rfl, hown4, hB4⟩
      have hG4 : ∃ t fr, w4.heap[0]? = some (.cells partsArr t fr) := by
        obtain ⟨t, fr, hp⟩ := hG
        have h0 : 0 < w.heap.size := (Array.getElem?_eq_some_iff.1 hp).1
        exact ⟨t, fr, (hB4.block 0 (by omega)).trans ((hnx2.block 0 (by omega)).trans ((hB1.block 0 h0).trans hp))⟩
      have hmb := ownsMap_blocks hown2 (fun k hk => hB4.block k hk)
      obtain ⟨look, hE, hS⟩ := ready2 hG4 hmb
      have hs4 := hB4.size
      have hN4 : IsName (w4.alloc (linesObj w1.heap.size)) g1 c1 (nameOf A sa) := (hNX.below hB4 (by omega)).below (B := w4.heap.size) ((Below.refl w4.heap.size w4).alloc (Nat.le_refl _) _) (by omega)
      clear hown2 hmb hNX hkS hkA
      go_wp2_with fail
      refine (check_any hE hS hN4 (by omega) (by omega)).mono ?_
      rintro e w6 ⟨rfl, nv6, hS6, hK6⟩
      have hN6 := hN4.kept hK6 (by omega) (by omega)
      have hkeep : w6.ownsRow w2.heap.size 5 1 v4 (nameOf A sa).size (bytesV (nameOf A sa)) := own_below hown4 (fun k hk => (hK6.block k (by omega) (by omega)).trans (Below.heap_alloc w4 _ k hk))
      have r2 := own_reads hkeep
      have r1 : Reads w6 (.slice (some ⟨g1, 0, none⟩) (nameOf A sa).size c1) (nameOf A sa) := by
        have := hN6.cells.reads (nameOf A sa).size c1 rfl
        rwa [show (⟨(nameOf A sa).data.toList.toArray⟩ : ByteArray) = nameOf A sa from ba_ext (by simp)] at this
      have hfin : Below w.heap.size w w6 := hB1.trans ((hnx2.mono hs1).trans ((hB4.mono (by omega)).trans (((Below.refl w.heap.size w4).alloc (by omega) (linesObj w1.heap.size)).trans (hK6.below (by omega) (by omega)))))
      clear hS hE hS6 hK6 hN4 hN6 hkeep hown4 hB4 hG4 hN1 hB1 hnx2
      go_wp2_with (go_at_call 8; refine (equal_any' _ _ _ _ _ r1 r2).mono ?_; rintro e w' ⟨rfl, rfl⟩)
      go_ret
      exact ⟨by simp, hfin⟩
    · go_wp2_with (first | (at_mapUpdate; refine wpList_mapUpdate_own _ rfl _ _ _ 25 rfl 9 26 law Ybad.underlying25 _ w1.heap.size 0 _ rfl hown (by unfold maxLen; omega) _ _ _ rfl rfl hkS _ [] (plainElem_string Ybad.underlying26 (by decide)) ?_) | fail)
      intro w2 hown2 hgr2
      have hnx2 := hnx.grown hgr2 hnx.size (fun j hj => by cases hj; exact Nat.le_refl _)
      clear hcv hgr2 hown hnx
      go_wp2_with (first | (at_mapUpdate; refine wpList_mapUpdate_own _ rfl _ _ _ 25 rfl 9 26 law Ybad.underlying25 _ w1.heap.size (0 + 1) _ rfl hown2 (by unfold maxLen; omega) _ _ _ rfl rfl hkA _ [] (plainElem_string Ybad.underlying26 (by decide)) ?_) | fail)
      intro w3 hown3 hgr3
      have hnx3 := hnx2.grown hgr3 hnx2.size (fun j hj => by cases hj; exact Nat.le_refl _)
      clear hgr3 hown2 hnx2
      have hNX := hN1.below hnx3 hN1.lt
      have hsX := hnx3.size
      have hs1 := hB1.size
      have hgl := hN1.lt
      go_wp2_with fail
      refine (clone_any hNX).mono ?_
      rintro e w4 ⟨v4, rfl, hown4, hB4⟩
      have hG4 : ∃ t fr, w4.heap[0]? = some (.cells partsArr t fr) := by
        obtain ⟨t, fr, hp⟩ := hG
        have h0 : 0 < w.heap.size := (Array.getElem?_eq_some_iff.1 hp).1
        exact ⟨t, fr, (hB4.block 0 (by omega)).trans ((hnx3.block 0 (by omega)).trans ((hB1.block 0 h0).trans hp))⟩
      have hmb := ownsMap_blocks hown3 (fun k hk => hB4.block k hk)
      obtain ⟨look, hE, hS⟩ := ready2 hG4 hmb
      have hs4 := hB4.size
      have hN4 : IsName (w4.alloc (linesObj w1.heap.size)) g1 c1 (nameOf A sa) := (hNX.below hB4 (by omega)).below (B := w4.heap.size) ((Below.refl w4.heap.size w4).alloc (Nat.le_refl _) _) (by omega)
      clear hown3 hmb hNX hkS hkA
      go_wp2_with fail
      refine (check_any hE hS hN4 (by omega) (by omega)).mono ?_
      rintro e w6 ⟨rfl, nv6, hS6, hK6⟩
      have hN6 := hN4.kept hK6 (by omega) (by omega)
      have hkeep : w6.ownsRow w3.heap.size 5 1 v4 (nameOf A sa).size (bytesV (nameOf A sa)) := own_below hown4 (fun k hk => (hK6.block k (by omega) (by omega)).trans (Below.heap_alloc w4 _ k hk))
      have r2 := own_reads hkeep
      have r1 : Reads w6 (.slice (some ⟨g1, 0, none⟩) (nameOf A sa).size c1) (nameOf A sa) := by
        have := hN6.cells.reads (nameOf A sa).size c1 rfl
        rwa [show (⟨(nameOf A sa).data.toList.toArray⟩ : ByteArray) = nameOf A sa from ba_ext (by simp)] at this
      have hfin : Below w.heap.size w w6 := hB1.trans ((hnx3.mono hs1).trans ((hB4.mono (by omega)).trans (((Below.refl w.heap.size w4).alloc (by omega) (linesObj w1.heap.size)).trans (hK6.below (by omega) (by omega)))))
      clear hS hE hS6 hK6 hN4 hN6 hkeep hown4 hB4 hG4 hN1 hB1 hnx3
      go_wp2_with (go_at_call 8; refine (equal_any' _ _ _ _ _ r1 r2).mono ?_; rintro e w' ⟨rfl, rfl⟩)
      go_ret
      exact ⟨by simp, hfin⟩

set_option maxHeartbeats 1000000 in
theorem match_long (A : ByteArray) (sa : Int) (a : Option Addr) (len cap : Nat) (m1 m2 : Bool) (w : World) (h : ¬ (A.size ≤ 1024 ∧ len ≤ 1024)) :
    Calls Ybad.prog 3 #[.string A, .int .u8 sa, .slice a len cap, .bool m1, .bool m2] w fun e w' => e = .returned (.bool true) ∧ Below w.heap.size w w' := by
  by_cases hA : A.size ≤ 1024
  · have hl : 1024 < len := by
      rcases Nat.lt_or_ge 1024 len with h1 | h1
      · exact h1
      · exact absurd ⟨hA, h1⟩ h
    clear h
    go_enter Ybad.func3, Ybad.ntmps3
    go_wp2
    go_ret
    exact ⟨rfl, Below.refl _ _⟩
  · have hA' : 1024 < A.size := by omega
    clear h hA
    go_enter Ybad.func3, Ybad.ntmps3
    go_wp2
    go_ret
    exact ⟨rfl, Below.refl _ _⟩

theorem match_walk (A : ByteArray) (sa : Int) (a : Option Addr) (len cap : Nat) (m1 m2 : Bool) (w : World) (h1 : 0 ≤ sa) (h2 : sa ≤ 255) (hT : IsStrs w a len)
    (hG : ∃ t fr, w.heap[0]? = some (.cells partsArr t fr)) :
    Calls Ybad.prog 3 #[.string A, .int .u8 sa, .slice a len cap, .bool m1, .bool m2] w fun e w' => e = .returned (.bool true) ∧ Below w.heap.size w w' := by
  by_cases h : A.size ≤ 1024 ∧ len ≤ 1024
  · rcases hT with rfl | ⟨b, off, rfl, hb, hT⟩
    · exact match_none A sa _ cap m1 m2 w h.1 h1 h2 hG
    · exact match_some A sa b off len cap m1 m2 w h.1 h1 h2 h.2 hG hb hT
  · exact match_long A sa a len cap m1 m2 w h

end Go.Proofs.YbulkjveDoor
