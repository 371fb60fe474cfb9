/-
  The law's model (zzs0524amodel): by its contract.
-/
import Derived.Test.YbulkjveDoorBase
import Derived.Deep.QuietTactic
import Derived.BigQuiet
namespace Go.Proofs.YbulkjveDoor
open Go.RowKit
set_option linter.unusedSimpArgs false
set_option linter.unusedVariables false

theorem conv_from {W : World} {g off cap : Nat} {s : ByteArray} (h : Cells W g off s.data.toList) (lo : Nat) :
    (convert 23 9 (.slice (some ⟨g, off + lo, none⟩) (s.size - lo) (cap - lo))).run Ybad.prog W = .ok (.string (s.extract lo s.size)) W := by
  have := (h.drop lo).reads (s.size - lo) (cap - lo) (by simp) 9 Ybad.underlying9
  rw [this]
  congr 2
  apply ba_ext
  rw [Lib.extract_data, List.take_of_length_le (by simp)]

theorem model_typed (g off cap mb : Nat) (s u : ByteArray) (w : World) (h1 : Reads w (.slice (some ⟨g, off, none⟩) s.size cap) s)
    (hl : (Instr.lookup 25 (.map (some mb)) (.string s) false).run Ybad.prog w = .ok (.string u) w) (hu : u.toList.isEmpty = false) :
    Calls Ybad.prog 9 #[.slice (some ⟨g, off, none⟩) s.size cap, .map (some mb)] w fun e w' => e = .returned (outT g off cap s (ans u s)) ∧ Below w.heap.size w w' := by
  have c1 := h1 9 Ybad.underlying9
  have HA : Hid (ans u s = none) := by unfold ans; rw [hu]; rfl
  go_enter Ybad.func9, Ybad.ntmps9
  go_wp2
  go_ret3
  refine ⟨?_, Below.refl _ _⟩
  rw [HA.out]
  rfl

set_option maxHeartbeats 1000000 in
theorem model_plain (g off cap mb : Nat) (s u : ByteArray) (w : World) (hs : s.size ≤ 4096) (hc : s.size ≤ cap) (hg : g < w.heap.size) (h1 : Cells w g off s.data.toList)
    (hl : (Instr.lookup 25 (.map (some mb)) (.string s) false).run Ybad.prog w = .ok (.string u) w) (hu : u.toList.isEmpty = true) :
    Calls Ybad.prog 9 #[.slice (some ⟨g, off, none⟩) s.size cap, .map (some mb)] w fun e w' => e = .returned (outT g off cap s (ans u s)) ∧ Below w.heap.size w w' := by
  have c0 := h1.reads s.size cap rfl 9 Ybad.underlying9
  have e0 : (⟨s.data.toList.toArray⟩ : ByteArray) = s := ba_ext (by simp)
  rw [e0] at c0
  have hconv : ∀ lo o, (convert 23 9 (.slice (some ⟨g, off + lo, none⟩) (s.size - lo) (cap - lo))).run Ybad.prog (w.alloc o) = .ok (.string (s.extract lo s.size)) (w.alloc o) :=
    fun lo o => conv_from (h1.of_block (Below.heap_alloc w o g hg)) lo
  have HA : Hid (ans u s = firstHit s) := by unfold ans; rw [if_pos hu]; rfl
  clear e0 h1
  go_enter Ybad.func9, Ybad.ntmps9
  go_wp2
  go_loop [8] (fun i => ∃ k : Nat, k ≤ 4 ∧ i = .int .i64 k ∧ ∀ j, j < k → hitB s j = false) (fun i => 4 - (intOf i).toNat)
  case atStart => exact ⟨0, by omega, rfl, fun j hj => by omega⟩
  case round =>
    obtain ⟨k, hk, rfl, hn⟩ := hrel
    have HN : Hid (∀ j, j < k → hitB s j = false) := hn
    clear hn
    have hcase : k = 0 ∨ k = 1 ∨ k = 2 ∨ k = 3 ∨ k = 4 := by omega
    rcases hcase with rfl | rfl | rfl | rfl | rfl
    · go_wp2
      · go_quiet (fail)
        go_wp2
        go_ret3
        refine ⟨?_, below_drewN ((Below.refl _ _).alloc (Nat.le_refl _) _) _⟩
        rw [HA.out, firstHit_at (by omega) HN.out (hitB_mk (i := 0) (by show 7 < s.size; omega) (by assumption))]
        rfl
      all_goals exact ⟨⟨1, by omega, rfl, below_succ HN.out (by first | exact hitB_short (i := 0) (by show s.size ≤ 7; omega) | exact hitB_other (i := 0) (by assumption))⟩, by simp [intOf]⟩
    · go_wp2
      · go_quiet (fail)
        go_wp2
        go_ret3
        refine ⟨?_, below_drewN ((Below.refl _ _).alloc (Nat.le_refl _) _) _⟩
        rw [HA.out, firstHit_at (by omega) HN.out (hitB_mk (i := 1) (by show 6 < s.size; omega) (by assumption))]
        rfl
      all_goals exact ⟨⟨2, by omega, rfl, below_succ HN.out (by first | exact hitB_short (i := 1) (by show s.size ≤ 6; omega) | exact hitB_other (i := 1) (by assumption))⟩, by simp [intOf]⟩
    · go_wp2
      · go_quiet (fail)
        go_wp2
        go_ret3
        refine ⟨?_, below_drewN ((Below.refl _ _).alloc (Nat.le_refl _) _) _⟩
        rw [HA.out, firstHit_at (by omega) HN.out (hitB_mk (i := 2) (by show 4 < s.size; omega) (by assumption))]
        rfl
      all_goals exact ⟨⟨3, by omega, rfl, below_succ HN.out (by first | exact hitB_short (i := 2) (by show s.size ≤ 4; omega) | exact hitB_other (i := 2) (by assumption))⟩, by simp [intOf]⟩
    · go_wp2
      · go_quiet (fail)
        go_wp2
        go_ret3
        refine ⟨?_, below_drewN ((Below.refl _ _).alloc (Nat.le_refl _) _) _⟩
        rw [HA.out, firstHit_at (by omega) HN.out (hitB_mk (i := 3) (by show 8 < s.size; omega) (by assumption))]
        rfl
      all_goals exact ⟨⟨4, by omega, rfl, below_succ HN.out (by first | exact hitB_short (i := 3) (by show s.size ≤ 8; omega) | exact hitB_other (i := 3) (by assumption))⟩, by simp [intOf]⟩
    · go_wp2
      go_ret3
      refine ⟨?_, (Below.refl _ _).alloc (Nat.le_refl _) _⟩
      rw [HA.out, firstHit_none HN.out]
      rfl

theorem model_any (g off cap mb : Nat) (s u : ByteArray) (w : World) (hs : s.size ≤ 4096) (hc : s.size ≤ cap) (hg : g < w.heap.size) (h1 : Cells w g off s.data.toList)
    (hl : (Instr.lookup 25 (.map (some mb)) (.string s) false).run Ybad.prog w = .ok (.string u) w) :
    Calls Ybad.prog 9 #[.slice (some ⟨g, off, none⟩) s.size cap, .map (some mb)] w fun e w' => e = .returned (outT g off cap s (ans u s)) ∧ Below w.heap.size w w' := by
  cases hu : u.toList.isEmpty
  · refine model_typed g off cap mb s u w ?_ hl hu
    have := h1.reads s.size cap rfl
    rwa [show (⟨s.data.toList.toArray⟩ : ByteArray) = s from ba_ext (by simp)] at this
  · exact model_plain g off cap mb s u w hs hc hg h1 hl hu

end Go.Proofs.YbulkjveDoor
