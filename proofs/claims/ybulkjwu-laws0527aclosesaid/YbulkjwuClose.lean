/-
  (*jsonScan).close: by its contracts.
-/
import Derived.Test.YbulkjwuPop
namespace Go.Proofs.Ybulkjwu
open Go.RowKit
set_option linter.unusedSimpArgs false
set_option linter.unusedVariables false

/-- The scan that the close is called on. -/
structure Scan (w : World) (S : Nat) (v0 v3 v4 : Value) (pos dep used : Int) (s2 : ByteArray) : Prop where
  c0 : w.cell? ⟨S, 0, none⟩ = some v0
  c1 : w.cell? ⟨S, 1, none⟩ = some (.int .i64 pos)
  c2 : w.cell? ⟨S, 2, none⟩ = some (.string s2)
  c3 : w.cell? ⟨S, 3, none⟩ = some v3
  c4 : w.cell? ⟨S, 4, none⟩ = some v4
  c5 : w.cell? ⟨S, 5, none⟩ = some (.int .i64 used)
  c6 : w.cell? ⟨S, 6, none⟩ = some (.int .i64 dep)
  c7 : w.cell? ⟨S, 7, none⟩ = some (.slice none 0 0)
  fr : ∀ o, w.frozen? ⟨S, o, none⟩ = false

def orEnd : ByteArray := ⟨#[44, 32, 111, 114, 32, 101, 110, 100]⟩

theorem os_sc (w : World) (a : Addr) (v : Value) : (w.setCell a v).os = w.os := rfl
theorem tape_sc (w : World) (a : Addr) (v : Value) : (w.setCell a v).tape = w.tape := rfl
theorem out_sc (w : World) (a : Addr) (v : Value) : (w.setCell a v).output = w.output := rfl
theorem os_dn (w : World) (n : Nat) : (w.drewN n).os = w.os := rfl
theorem tape_dn (w : World) (n : Nat) : (w.drewN n).tape = w.tape := rfl
theorem out_dn (w : World) (n : Nat) : (w.drewN n).output = w.output := rfl

/-- The world in which close calls pop. -/
structure Mid (w W : World) (S R : Nat) (v0 v3 v4 vR : Value) (pos dep used : Int) (s2 : ByteArray) : Prop where
  scan : Scan W S v0 v3 v4 pos dep used s2
  r0 : W.cell? ⟨w.heap.size, 0, none⟩ = some (.string ⟨#[]⟩)
  r1 : W.cell? ⟨w.heap.size, 1, none⟩ = some (.slice none 0 0)
  rf : ∀ o, W.frozen? ⟨w.heap.size, o, none⟩ = false
  cR : W.cell? ⟨R, 0, none⟩ = some vR
  fR : W.frozen? ⟨R, 0, none⟩ = false
  size : W.heap.size = w.heap.size + 1
  os : W.os = w.os
  tape : W.tape = w.tape
  output : W.output = w.output
  block : ∀ k, k < w.heap.size → k ≠ S → W.heap[k]? = w.heap[k]?

theorem mid_of {w : World} {S R : Nat} {v0 v3 v4 vR : Value} {pos dep used p1 : Int} {s2 : ByteArray} (hS : Scan w S v0 v3 v4 pos dep used s2) (hr : w.cell? ⟨R, 0, none⟩ = some vR) (hf : w.frozen? ⟨R, 0, none⟩ = false)
    (hRS : R ≠ S) (hSl : S < w.heap.size) (hRl : R < w.heap.size) :
    Mid w ((w.setCell ⟨S, 1, none⟩ (.int .i64 p1)).alloc (.cells #[.string ⟨#[]⟩, .slice none 0 0] 36)) S R v0 v3 v4 vR p1 dep used s2 := by
  obtain ⟨c0, c1, c2, c3, c4, c5, c6, c7, fr⟩ := hS
  have hsz : (w.setCell ⟨S, 1, none⟩ (.int .i64 p1)).heap.size = w.heap.size := by simp [World.setCell]
  have old : ∀ a : Addr, a.block < w.heap.size → ((w.setCell ⟨S, 1, none⟩ (.int .i64 p1)).alloc (.cells #[.string ⟨#[]⟩, .slice none 0 0] 36)).cell? a = (w.setCell ⟨S, 1, none⟩ (.int .i64 p1)).cell? a := fun a ha =>
    World.cell?_of_block (Below.heap_alloc _ _ _ (by omega))
  have oldf : ∀ a : Addr, a.block < w.heap.size → ((w.setCell ⟨S, 1, none⟩ (.int .i64 p1)).alloc (.cells #[.string ⟨#[]⟩, .slice none 0 0] 36)).frozen? a = (w.setCell ⟨S, 1, none⟩ (.int .i64 p1)).frozen? a := fun a ha =>
    World.frozen?_of_block (Below.heap_alloc _ _ _ (by omega))
  have new : ((w.setCell ⟨S, 1, none⟩ (.int .i64 p1)).alloc (.cells #[.string ⟨#[]⟩, .slice none 0 0] 36)).heap[w.heap.size]? = some (.cells #[.string ⟨#[]⟩, .slice none 0 0] 36) := by
    have := heap_alloc_new (w.setCell ⟨S, 1, none⟩ (.int .i64 p1)) (.cells #[.string ⟨#[]⟩, .slice none 0 0] 36)
    rwa [hsz] at this
  have hSR : S ≠ R := fun h => hRS h.symm
  refine ⟨⟨?_, ?_, ?_, ?_, ?_, ?_, ?_, ?_, ?_⟩, ?_, ?_, ?_, ?_, ?_, by simp [hsz], rfl, rfl, rfl, ?_⟩
  · rw [old _ hSl]; simp [go_sem, c0]
  · rw [old _ hSl]; simp [go_sem, c1]
  · rw [old _ hSl]; simp [go_sem, c2]
  · rw [old _ hSl]; simp [go_sem, c3]
  · rw [old _ hSl]; simp [go_sem, c4]
  · rw [old _ hSl]; simp [go_sem, c5]
  · rw [old _ hSl]; simp [go_sem, c6]
  · rw [old _ hSl]; simp [go_sem, c7]
  · intro o; rw [oldf _ hSl]; simp [go_sem, fr]
  · exact cell_of_row _ _ 0 _ 36 (0, 0) new
  · exact cell_of_row _ _ 1 _ 36 (0, 0) new
  · intro o; exact frozen_of_row _ _ o _ 36 new
  · rw [old _ hRl]; simp [go_sem, hr, hSR, hRS]
  · rw [oldf _ hRl]; simp [go_sem, hf]
  · intro k hk hne
    rw [Below.heap_alloc _ _ _ (by omega), Below.heap_setCell _ _ _ _ hne]

/-- What close leaves. -/
structure Closed (w w' : World) (S R : Nat) (v0 v3 v4 vR : Value) (pos dep used : Int) : Prop where
  scan : Scan w' S v0 v3 v4 pos dep used orEnd
  cR : w'.cell? ⟨R, 0, none⟩ = some vR
  size : w.heap.size ≤ w'.heap.size
  os : w'.os = w.os
  tape : w'.tape = w.tape
  output : w'.output = w.output
  block : ∀ k, k < w.heap.size → k ≠ S → k ≠ R → w'.heap[k]? = w.heap[k]?

set_option maxHeartbeats 1000000 in
theorem close_more (S C R n c : Nat) (x : Option Addr) (v0 v3 : Value) (pos dep : Int) (s2 kd : ByteArray) (w : World) (hn : 2 ≤ n) (hn1 : n ≤ 2000) (hnc : n ≤ c) (hd0 : 0 ≤ dep) (hd1 : dep ≤ 4096)
    (hS : Scan w S v0 v3 (.pointer (some ⟨C, 0, none⟩)) pos dep 1 s2) (hc : w.cell? ⟨C, 0, none⟩ = some (.slice (some ⟨R, 0, none⟩) 1 1)) (hr : w.cell? ⟨R, 0, none⟩ = some (.slice x n c)) (hf : w.frozen? ⟨R, 0, none⟩ = false)
    (hRS : R ≠ S) (hCS : C ≠ S) (hCR : C ≠ R) (hSl : S < w.heap.size) (hRl : R < w.heap.size) (hCl : C < w.heap.size) :
    Calls Yba.prog 7 #[.pointer (some ⟨S, 0, none⟩), .string kd] w fun e w' => e = .returned (.agg #[.string kd, .slice none 0 0]) ∧
      Closed w w' S R v0 v3 (.pointer (some ⟨C, 0, none⟩)) (.slice x (n - 1) c) (wrap64 (pos + 1)) (dep - 1) 1 := by
  have HM : Hid (Mid w _ S R v0 v3 _ _ (wrap64 (pos + 1)) dep 1 s2) := mid_of hS hr hf hRS hSl hRl
  obtain ⟨c0, c1, c2, c3, c4, c5, c6, c7, fr⟩ := hS
  have hSR : S ≠ R := fun h => hRS h.symm
  have hNS : w.heap.size ≠ S := by omega
  have hNR : w.heap.size ≠ R := by omega
  have hSN : S ≠ w.heap.size := by omega
  have hRN : R ≠ w.heap.size := by omega
  go_enter Yba.func7, Yba.ntmps7
  go_wp2_with fail
  clear c0 c1 c2 c3 c4 c5 c6 c7 fr hr hf
  obtain ⟨W, hW⟩ : ∃ W, W = ((w.setCell ⟨S, 1, none⟩ (.int .i64 (wrap64 (pos + 1)))).alloc (.cells #[.string ⟨#[]⟩, .slice none 0 0] 36)) := ⟨_, rfl⟩
  rw [← hW]
  have HM2 := HM.out
  rw [← hW] at HM2
  clear HM hW
  have hcC : W.cell? ⟨C, 0, none⟩ = some (.slice (some ⟨R, 0, none⟩) 1 1) := (World.cell?_of_block (a := ⟨C, 0, none⟩) (HM2.block C hCl hCS)).trans hc
  obtain ⟨⟨c0, c1, c2, c3, c4, c5, c6, c7, fr⟩, r0, r1, rf, cR, fR, size, os, tape, output, block⟩ := HM2
  refine (pop_more S 3 C R n c x W hn hn1 hnc c5 c4 hcC cR fR).mono ?_
  rintro e w' ⟨rfl, m, rfl⟩
  have HB : Hid (∀ k, k < w.heap.size → k ≠ S → W.heap[k]? = w.heap[k]?) := block
  have HZ : Hid (W.heap.size = w.heap.size + 1 ∧ W.os = w.os ∧ W.tape = w.tape ∧ W.output = w.output) := ⟨size, os, tape, output⟩
  clear block size os tape output hc
  go_wp2
  refine bodyPost_ret (v := .agg #[.string kd, .slice none 0 0]) (by simp [results, Yba.results7, go_sem, r0, r1, hNS, hNR, hSN, hRN]) rfl ⟨rfl, ?_⟩
  obtain ⟨size, os, tape, output⟩ := HZ.out
  refine ⟨⟨?_, ?_, ?_, ?_, ?_, ?_, ?_, ?_, ?_⟩, ?_, ?_, by simp only [os_sc, os_dn]; exact os, by simp only [tape_sc, tape_dn]; exact tape, by simp only [out_sc, out_dn]; exact output, ?_⟩
  · simp [go_sem, c0, hRS, hSR, hNS, hSN]
  · simp [go_sem, c1, hRS, hSR, hNS, hSN]
  · simp [go_sem, c2, hRS, hSR, hNS, hSN, orEnd]
  · simp [go_sem, c3, hRS, hSR, hNS, hSN]
  · simp [go_sem, c4, hRS, hSR, hNS, hSN]
  · simp [go_sem, c5, hRS, hSR, hNS, hSN]
  · simp [go_sem, c6, hRS, hSR, hNS, hSN]
  · simp [go_sem, c7, hRS, hSR, hNS, hSN]
  · intro o; simp [go_sem, fr]
  · simp [go_sem, cR, hRS, hSR, hNR, hRN]
  · simp [World.setCell, World.drewN]; omega
  · intro k hk h1 h2
    rw [Below.heap_setCell _ _ _ _ (by simp; omega), Below.heap_setCell _ _ _ _ (by simp; omega), Below.heap_setCell _ _ _ _ h1, Below.heap_setCell _ _ _ _ h1]
    show (W.setCell ⟨R, 0, none⟩ (.slice x (n - 1) c)).heap[k]? = _
    rw [Below.heap_setCell _ _ _ _ h2]
    exact HB.out k hk h1

set_option maxHeartbeats 1000000 in
theorem close_last (S C R c : Nat) (x : Option Addr) (v0 v3 : Value) (pos dep : Int) (s2 kd : ByteArray) (w : World) (hnc : 1 ≤ c) (hd0 : 0 ≤ dep) (hd1 : dep ≤ 4096)
    (hS : Scan w S v0 v3 (.pointer (some ⟨C, 0, none⟩)) pos dep 1 s2) (hc : w.cell? ⟨C, 0, none⟩ = some (.slice (some ⟨R, 0, none⟩) 1 1)) (hr : w.cell? ⟨R, 0, none⟩ = some (.slice x 1 c)) (hf : w.frozen? ⟨R, 0, none⟩ = false)
    (hRS : R ≠ S) (hCS : C ≠ S) (hCR : C ≠ R) (hSl : S < w.heap.size) (hRl : R < w.heap.size) (hCl : C < w.heap.size) :
    Calls Yba.prog 7 #[.pointer (some ⟨S, 0, none⟩), .string kd] w fun e w' => e = .returned (.agg #[.string kd, .slice none 0 0]) ∧
      Closed w w' S R v0 v3 (.pointer (some ⟨C, 0, none⟩)) (.slice x 0 c) (wrap64 (pos + 1)) (dep - 1) 0 := by
  have HM : Hid (Mid w _ S R v0 v3 _ _ (wrap64 (pos + 1)) dep 1 s2) := mid_of hS hr hf hRS hSl hRl
  obtain ⟨c0, c1, c2, c3, c4, c5, c6, c7, fr⟩ := hS
  have hSR : S ≠ R := fun h => hRS h.symm
  have hNS : w.heap.size ≠ S := by omega
  have hNR : w.heap.size ≠ R := by omega
  have hSN : S ≠ w.heap.size := by omega
  have hRN : R ≠ w.heap.size := by omega
  go_enter Yba.func7, Yba.ntmps7
  go_wp2_with fail
  clear c0 c1 c2 c3 c4 c5 c6 c7 fr hr hf
  obtain ⟨W, hW⟩ : ∃ W, W = ((w.setCell ⟨S, 1, none⟩ (.int .i64 (wrap64 (pos + 1)))).alloc (.cells #[.string ⟨#[]⟩, .slice none 0 0] 36)) := ⟨_, rfl⟩
  rw [← hW]
  have HM2 := HM.out
  rw [← hW] at HM2
  clear HM hW
  have hcC : W.cell? ⟨C, 0, none⟩ = some (.slice (some ⟨R, 0, none⟩) 1 1) := (World.cell?_of_block (a := ⟨C, 0, none⟩) (HM2.block C hCl hCS)).trans hc
  obtain ⟨⟨c0, c1, c2, c3, c4, c5, c6, c7, fr⟩, r0, r1, rf, cR, fR, size, os, tape, output, block⟩ := HM2
  refine (pop_last S 3 C R c x W hRS hnc c5 c4 hcC cR fR (fr _)).mono ?_
  rintro e w' ⟨rfl, m, rfl⟩
  have HB : Hid (∀ k, k < w.heap.size → k ≠ S → W.heap[k]? = w.heap[k]?) := block
  have HZ : Hid (W.heap.size = w.heap.size + 1 ∧ W.os = w.os ∧ W.tape = w.tape ∧ W.output = w.output) := ⟨size, os, tape, output⟩
  clear block size os tape output hc
  go_wp2
  refine bodyPost_ret (v := .agg #[.string kd, .slice none 0 0]) (by simp [results, Yba.results7, go_sem, r0, r1, hNS, hNR, hSN, hRN]) rfl ⟨rfl, ?_⟩
  obtain ⟨size, os, tape, output⟩ := HZ.out
  refine ⟨⟨?_, ?_, ?_, ?_, ?_, ?_, ?_, ?_, ?_⟩, ?_, ?_, by simp only [os_sc, os_dn]; exact os, by simp only [tape_sc, tape_dn]; exact tape, by simp only [out_sc, out_dn]; exact output, ?_⟩
  · simp [go_sem, c0, hRS, hSR, hNS, hSN]
  · simp [go_sem, c1, hRS, hSR, hNS, hSN]
  · simp [go_sem, c2, hRS, hSR, hNS, hSN, orEnd]
  · simp [go_sem, c3, hRS, hSR, hNS, hSN]
  · simp [go_sem, c4, hRS, hSR, hNS, hSN]
  · simp [go_sem, c5, hRS, hSR, hNS, hSN]
  · simp [go_sem, c6, hRS, hSR, hNS, hSN]
  · simp [go_sem, c7, hRS, hSR, hNS, hSN]
  · intro o; simp [go_sem, fr]
  · simp [go_sem, cR, hRS, hSR, hNR, hRN]
  · simp [World.setCell, World.drewN]; omega
  · intro k hk h1 h2
    rw [Below.heap_setCell _ _ _ _ (by simp; omega), Below.heap_setCell _ _ _ _ (by simp; omega), Below.heap_setCell _ _ _ _ h1, Below.heap_setCell _ _ _ _ h1]
    show ((W.setCell ⟨R, 0, none⟩ (.slice x 0 c)).setCell ⟨S, 3 + 2, none⟩ (.int .i64 0)).heap[k]? = _
    rw [Below.heap_setCell _ _ _ _ h1, Below.heap_setCell _ _ _ _ h2]
    exact HB.out k hk h1

set_option maxHeartbeats 1000000 in
theorem close_first (S C R n c : Nat) (x : Option Addr) (v0 vR : Value) (pos dep : Int) (s2 kd : ByteArray) (w : World) (hn : 1 ≤ n) (hn1 : n ≤ 2000) (hnc : n ≤ c) (hd0 : 0 ≤ dep) (hd1 : dep ≤ 4096)
    (hS : Scan w S v0 (.slice x n c) (.pointer (some ⟨C, 0, none⟩)) pos dep 0 s2) (hc : w.cell? ⟨C, 0, none⟩ = some (.slice (some ⟨R, 0, none⟩) 1 1)) (hr : w.cell? ⟨R, 0, none⟩ = some vR) (hf : w.frozen? ⟨R, 0, none⟩ = false)
    (hRS : R ≠ S) (hCS : C ≠ S) (hCR : C ≠ R) (hSl : S < w.heap.size) (hRl : R < w.heap.size) (hCl : C < w.heap.size) :
    Calls Yba.prog 7 #[.pointer (some ⟨S, 0, none⟩), .string kd] w fun e w' => e = .returned (.agg #[.string kd, .slice none 0 0]) ∧
      Closed w w' S R v0 (.slice x (n - 1) c) (.pointer (some ⟨C, 0, none⟩)) vR (wrap64 (pos + 1)) (dep - 1) 0 := by
  have HM : Hid (Mid w _ S R v0 (.slice x n c) _ _ (wrap64 (pos + 1)) dep 0 s2) := mid_of hS hr hf hRS hSl hRl
  obtain ⟨c0, c1, c2, c3, c4, c5, c6, c7, fr⟩ := hS
  have hSR : S ≠ R := fun h => hRS h.symm
  have hNS : w.heap.size ≠ S := by omega
  have hNR : w.heap.size ≠ R := by omega
  have hSN : S ≠ w.heap.size := by omega
  have hRN : R ≠ w.heap.size := by omega
  go_enter Yba.func7, Yba.ntmps7
  go_wp2_with fail
  clear c0 c1 c2 c3 c4 c5 c6 c7 fr hr hf
  obtain ⟨W, hW⟩ : ∃ W, W = ((w.setCell ⟨S, 1, none⟩ (.int .i64 (wrap64 (pos + 1)))).alloc (.cells #[.string ⟨#[]⟩, .slice none 0 0] 36)) := ⟨_, rfl⟩
  rw [← hW]
  have HM2 := HM.out
  rw [← hW] at HM2
  clear HM hW
  have hcC : W.cell? ⟨C, 0, none⟩ = some (.slice (some ⟨R, 0, none⟩) 1 1) := (World.cell?_of_block (a := ⟨C, 0, none⟩) (HM2.block C hCl hCS)).trans hc
  obtain ⟨⟨c0, c1, c2, c3, c4, c5, c6, c7, fr⟩, r0, r1, rf, cR, fR, size, os, tape, output, block⟩ := HM2
  refine (pop_first S 3 n c x W hn hn1 hnc c5 c3 (fr _)).mono ?_
  rintro e w' ⟨rfl, m, rfl⟩
  have HB : Hid (∀ k, k < w.heap.size → k ≠ S → W.heap[k]? = w.heap[k]?) := block
  have HZ : Hid (W.heap.size = w.heap.size + 1 ∧ W.os = w.os ∧ W.tape = w.tape ∧ W.output = w.output) := ⟨size, os, tape, output⟩
  clear block size os tape output hc
  go_wp2
  refine bodyPost_ret (v := .agg #[.string kd, .slice none 0 0]) (by simp [results, Yba.results7, go_sem, r0, r1, hNS, hNR, hSN, hRN]) rfl ⟨rfl, ?_⟩
  obtain ⟨size, os, tape, output⟩ := HZ.out
  refine ⟨⟨?_, ?_, ?_, ?_, ?_, ?_, ?_, ?_, ?_⟩, ?_, ?_, by simp only [os_sc, os_dn]; exact os, by simp only [tape_sc, tape_dn]; exact tape, by simp only [out_sc, out_dn]; exact output, ?_⟩
  · simp [go_sem, c0, hRS, hSR, hNS, hSN]
  · simp [go_sem, c1, hRS, hSR, hNS, hSN]
  · simp [go_sem, c2, hRS, hSR, hNS, hSN, orEnd]
  · simp [go_sem, c3, hRS, hSR, hNS, hSN]
  · simp [go_sem, c4, hRS, hSR, hNS, hSN]
  · simp [go_sem, c5, hRS, hSR, hNS, hSN]
  · simp [go_sem, c6, hRS, hSR, hNS, hSN]
  · simp [go_sem, c7, hRS, hSR, hNS, hSN]
  · intro o; simp [go_sem, fr]
  · simp [go_sem, cR, hRS, hSR, hNR, hRN]
  · simp [World.setCell, World.drewN]; omega
  · intro k hk h1 h2
    rw [Below.heap_setCell _ _ _ _ (by simp; omega), Below.heap_setCell _ _ _ _ (by simp; omega), Below.heap_setCell _ _ _ _ h1, Below.heap_setCell _ _ _ _ h1]
    show (W.setCell ⟨S, 3, none⟩ (.slice x (n - 1) c)).heap[k]? = _
    rw [Below.heap_setCell _ _ _ _ h1]
    exact HB.out k hk h1

end Go.Proofs.Ybulkjwu
