/-
  (*expositionLines).splitSeries, the law's check: by their contracts.
-/
import Derived.Test.YbulkjveDoorNamed
import Derived.Test.YbulkjveDoorModel
namespace Go.Proofs.YbulkjveDoor
open Go.RowKit Go.Maps Go.WideMaps
set_option linter.unusedSimpArgs false
set_option linter.unusedVariables false

theorem eq_of_toList {a b : ByteArray} (h : (a.toList == b.toList) = true) : a = b := by
  rw [ByteArray.toList_eq, ByteArray.toList_eq] at h
  exact ba_ext (by simpa using h)

theorem named_any {w : World} {B L mb : Nat} {look : ByteArray → ByteArray} {s0 s : ByteArray} {g cap : Nat} {nv : Value} {kn : Bool} (hE : Env w B L mb look) (hS : St w B L mb look nv s0 kn) (hN : IsName w g cap s) (hgB : g < B) (hgL : g ≠ L) :
    Calls Ybad.prog 11 #[.pointer (some ⟨L, 0, none⟩), .slice (some ⟨g, 0, none⟩) s.size cap] w fun e w' => e = .returned (.pointer (some ⟨L, 13, none⟩)) ∧ ∃ nv', St w' B L mb look nv' s true ∧ Kept B L w w' := by
  by_cases h : kn = true ∧ (s.toList == s0.toList) = true
  · obtain ⟨h1, h2⟩ := h
    subst h1
    have e := eq_of_toList h2
    subst e
    exact (named_same hS hN).mono fun e w' he => ⟨he.1, nv, he.2 ▸ hS, he.2 ▸ Kept.refl B L w⟩
  · refine named_other hE hS (fun hk => ?_) hN hgB hgL
    cases hb : (s.toList == s0.toList)
    · rfl
    · exact absurd ⟨hk, hb⟩ h

theorem famOf_none (v : Value) (s : ByteArray) : famOf v s none = .slice none 0 0 := by unfold famOf; cases v <;> rfl

/-- Of a name that ends in a part the family is a slice of the struct's own copy. -/
theorem fam_some {w : World} {B : Nat} {nv : Value} {s : ByteArray} {i : Nat} (hown : w.ownsRow B 5 1 nv s.size (bytesV s)) (h : firstHit s = some i) :
    ∃ q c, nv = .slice (some ⟨q, 0, none⟩) s.size c ∧ s.size ≤ c ∧ Cells w q 0 s.data.toList := by
  have hlt := hitB_lt (firstHit_some h).2
  rcases hown.2 with ⟨h1, h2⟩ | ⟨q, c, cur, rfl, hq, hb, hn, hcm, hcs, htake⟩
  · omega
  · exact ⟨q, c, rfl, hn, cells_of_row hb (rest := cur.toList.drop s.size) (by
      have := List.take_append_drop s.size cur.toList
      rw [Nat.mul_one] at htake
      rw [htake] at this
      exact this.symm)⟩

theorem St.drewN {w : World} {B L mb : Nat} {look : ByteArray → ByteArray} {nv : Value} {s0 : ByteArray} {kn : Bool} (h : St w B L mb look nv s0 kn) (n : Nat) : St (w.drewN n) B L mb look nv s0 kn :=
  ⟨h.c0, h.c13, h.c14, h.c15, h.c16, h.c17, h.c18, h.fr, h.own, h.fresh, h.small⟩

set_option maxHeartbeats 1000000 in
theorem split_any {w : World} {B L mb : Nat} {look : ByteArray → ByteArray} {s0 s : ByteArray} {g cap : Nat} {nv : Value} {kn : Bool} (hE : Env w B L mb look) (hS : St w B L mb look nv s0 kn) (hN : IsName w g cap s) (hgB : g < B) (hgL : g ≠ L) :
    Calls Ybad.prog 10 #[.pointer (some ⟨L, 0, none⟩), .slice (some ⟨g, 0, none⟩) s.size cap] w fun e w' => ∃ nv', e = .returned (.tuple #[famOf nv' s (ans (look s) s), .string (outP (ans (look s) s)), .bool (ans (look s) s).isSome]) ∧
      St w' B L mb look nv' s true ∧ Kept B L w w' := by
  have hsn : ∀ (W : World) (a : Option Addr) (n c : Nat), (binOp .eql 23 (.slice a n c) (.slice none 0 0)).run Ybad.prog W = .ok (.bool a.isNone) W := fun W a n c => Lib.run_eql_slice_nil W 23 5 a n c 0 0 Ybad.underlying23
  go_enter Ybad.func10, Ybad.ntmps10
  go_wp2_with fail
  refine (named_any hE hS hN hgB hgL).mono ?_
  rintro e w1 ⟨rfl, nv', hS1, hK1⟩
  obtain ⟨f14, k14, hf14⟩ := hS1.c14
  obtain ⟨f15, k15, hf15⟩ := hS1.c15
  obtain ⟨f16, k16, hf16⟩ := hS1.c16
  rw [hf14 rfl] at k14
  rw [hf15 rfl] at k15
  rw [hf16 rfl] at k16
  clear hf14 hf15 hf16 hS hN hE
  cases hh : firstHit s with
  | none =>
    have HA : Hid (ans (look s) s = none) := by unfold ans; rw [hh]; split <;> rfl
    rw [hh, famOf_none] at k14
    rw [hh] at k15
    clear hh
    go_wp2
    go_ret3
    refine ⟨nv', ?_, hS1, hK1⟩
    rw [HA.out, famOf_none]
    rfl
  | some i =>
    obtain ⟨q, c, hnv, hqc, hcq⟩ := fam_some hS1.own hh
    rw [hh, hnv] at k14
    rw [hh] at k15
    unfold famOf at k14
    simp only [outP] at k15
    cases hu : (look s).toList.isEmpty
    · have HA : Hid (ans (look s) s = none) := by unfold ans; rw [hu]; rfl
      clear hh hnv
      go_wp2
      go_ret3
      refine ⟨nv', ?_, hS1, hK1⟩
      rw [HA.out, famOf_none]
      rfl
    · have HA : Hid (ans (look s) s = some i) := by unfold ans; rw [if_pos hu]; exact hh
      have HV : Hid (nv' = .slice (some ⟨q, 0, none⟩) s.size c) := hnv
      clear hh hnv
      go_wp2
      go_quiet (fail)
      go_wp2
      go_ret3
      refine ⟨nv', ?_, hS1.drewN _, hK1.drewN _⟩
      rw [HA.out, HV.out]
      rfl

/-- What the check asks of the two answers. -/
theorem ans_lt {u s : ByteArray} {i : Nat} (h : ans u s = some i) : firstHit s = some i := by
  unfold ans at h
  split at h
  · exact h
  · cases h

set_option maxHeartbeats 1000000 in
theorem check_any {w : World} {B L mb : Nat} {look : ByteArray → ByteArray} {s0 s : ByteArray} {g cap : Nat} {nv : Value} {kn : Bool} (hE : Env w B L mb look) (hS : St w B L mb look nv s0 kn) (hN : IsName w g cap s) (hgB : g < B) (hgL : g ≠ L) :
    Calls Ybad.prog 7 #[.pointer (some ⟨L, 0, none⟩), .slice (some ⟨g, 0, none⟩) s.size cap] w fun e w' => e = .returned (.bool true) ∧ ∃ nv', St w' B L mb look nv' s true ∧ Kept B L w w' := by
  have hsn : ∀ (W : World) (a : Option Addr) (n c : Nat), (binOp .eql 23 (.slice a n c) (.slice none 0 0)).run Ybad.prog W = .ok (.bool a.isNone) W := fun W a n c => Lib.run_eql_slice_nil W 23 5 a n c 0 0 Ybad.underlying23
  have k0 := hS.c0
  have hlook := hE.map.run s (by have := hN.small; unfold maxLen; omega)
  have hBw := hE.size
  have hLB := hE.L_lt
  go_enter Ybad.func7, Ybad.ntmps7
  go_wp2_with fail
  refine (model_any g 0 cap mb s (look s) w hN.small hN.cap hN.lt hN.cells hlook).mono ?_
  rintro e w1 ⟨rfl, hB1⟩
  have hK1 : Kept B L w w1 := Kept.of_below (hB1.mono hBw)
  have hL1 : w1.heap[L]? = w.heap[L]? := hB1.block L (by omega)
  have hS1 : St w1 B L mb look nv s0 kn := by
    have cc : ∀ o, w1.cell? ⟨L, o, none⟩ = w.cell? ⟨L, o, none⟩ := fun o => World.cell?_of_block (a := ⟨L, o, none⟩) hL1
    refine ⟨(cc 0).trans hS.c0, (cc 13).trans hS.c13, by rw [cc]; exact hS.c14, by rw [cc]; exact hS.c15, by rw [cc]; exact hS.c16, by rw [cc]; exact hS.c17, (cc 18).trans hS.c18, fun o => (World.frozen?_of_block (a := ⟨L, o, none⟩) hL1).trans (hS.fr o), ?_, hS.fresh, hS.small⟩
    rcases hS.own.2 with h | ⟨q, c, cur, h1, hq, hb, hrest⟩
    · exact ⟨hS.own.1, .inl h⟩
    · have hq2 : q < w.heap.size := (Array.getElem?_eq_some_iff.1 hb).1
      exact ⟨hS.own.1, .inr ⟨q, c, cur, h1, hq, (hB1.block q hq2).trans hb, hrest⟩⟩
  have hE1 := hE.kept hK1
  have hN1 := hN.kept hK1 hgB hgL
  unfold outT
  clear hlook k0
  go_wp2_with fail
  refine (split_any hE1 hS1 hN1 hgB hgL).mono ?_
  rintro e w2 ⟨nv', rfl, hS2, hK2⟩
  have hN2 := hN1.kept hK2 hgB hgL
  have hK := hK1.trans hK2
  clear hS hE hN hK1 hK2 hS1 hE1 hN1 hB1 hL1
  cases hr : ans (look s) s with
  | none =>
    rw [famOf_none]
    clear hr
    go_wp2
    go_ret
    exact ⟨rfl, nv', hS2, hK⟩
  | some i =>
    obtain ⟨q, c, hnv, hqc, hcq⟩ := fam_some hS2.own (ans_lt hr)
    have hsame : famOf nv' s (some i) = .slice (some ⟨q, 0, none⟩) (s.size - pl i) c := by rw [hnv]; rfl
    rw [hsame]
    have hle : s.data.toList.length = s.size := rfl
    have r1 := (hcq.take (s.size - pl i)).reads (s.size - pl i) c (by simp)
    have r2 := (hN2.cells.take (s.size - pl i)).reads (s.size - pl i) cap (by simp)
    have HS : Hid (St w2 B L mb look nv' s true) := hS2
    have HK : Hid (Kept B L w w2) := hK
    clear hr hnv hsame hcq hN2 hS2 hK hle
    unfold outF
    go_wp2_with (go_at_call 8; refine (equal_any' _ _ _ _ _ r1 r2).mono ?_; rintro e w' ⟨rfl, rfl⟩)
    go_ret
    exact ⟨rfl, nv', HS.out, HK.out⟩

end Go.Proofs.YbulkjveDoor
