/-
  (*expositionLines).named: by its contract: whatever was asked before, the struct then holds what is made of this name.
-/
import Derived.Test.YbulkjveDoorState
import Derived.Deep.QuietTactic
import Derived.BigQuiet
namespace Go.Proofs.YbulkjveDoor
open Go.RowKit Go.Maps Go.WideMaps
set_option linter.unusedSimpArgs false
set_option linter.unusedVariables false

set_option maxHeartbeats 400000 in
/-- The same name as before. -/
theorem named_same {w : World} {B L mb : Nat} {look : ByteArray → ByteArray} {nv : Value} {s : ByteArray} {g cap : Nat} (hS : St w B L mb look nv s true) (hN : IsName w g cap s) :
    Calls Ybad.prog 11 #[.pointer (some ⟨L, 0, none⟩), .slice (some ⟨g, 0, none⟩) s.size cap] w fun e w' => e = .returned (.pointer (some ⟨L, 13, none⟩)) ∧ w' = w := by
  have k13 := hS.c13
  have k18 := hS.c18
  have r1 : Reads w (.slice (some ⟨g, 0, none⟩) s.size cap) s := by
    have := hN.cells.reads s.size cap rfl
    rwa [show (⟨s.data.toList.toArray⟩ : ByteArray) = s from ba_ext (by simp)] at this
  have r2 := own_reads hS.own
  clear hS hN
  go_enter Ybad.func11, Ybad.ntmps11
  go_wp2_with (go_at_call 8; refine (equal_any _ _ _ _ _ r1 r2).mono ?_; rintro e w' ⟨rfl, rfl⟩)
  go_ret
  exact ⟨rfl, rfl⟩

/-- The world behind the four stores ahead of the loop. -/
def after5 (w1 : World) (L : Nat) (v : Value) : World :=
  (((w1.setCell ⟨L, 13, none⟩ v).setCell ⟨L, 14, none⟩ (.slice none 0 0)).setCell ⟨L, 15, none⟩ (.string ⟨#[]⟩)).setCell ⟨L, 17, none⟩ (.string ⟨#[]⟩)

/-- What the walk asks of a world behind the append: the name, the family, the map read as they did. -/
structure Good (mb : Nat) (look : ByteArray → ByteArray) (v0 : Option Addr) (c0 : Nat) (s : ByteArray) (g cap : Nat) (X : World) : Prop where
  fam : ∀ n, n ≤ s.size → (convert 23 9 (.slice v0 n c0)).run Ybad.prog X = .ok (.string (s.extract 0 n)) X
  sub : ∀ lo, (convert 23 9 (.slice (some ⟨g, lo, none⟩) (s.size - lo) (cap - lo))).run Ybad.prog X = .ok (.string (s.extract lo s.size)) X
  name : (convert 23 9 (.slice (some ⟨g, 0, none⟩) s.size cap)).run Ybad.prog X = .ok (.string s) X
  lk : ∀ n, (Instr.lookup 25 (.map (some mb)) (.string (s.extract 0 n)) false).run Ybad.prog X = .ok (.string (look (s.extract 0 n))) X
  whole : (Instr.lookup 25 (.map (some mb)) (.string s) false).run Ybad.prog X = .ok (.string (look s)) X

theorem good_mk {mb B L : Nat} {look : ByteArray → ByteArray} {v0 : Option Addr} {c0 : Nat} {s : ByteArray} {g cap : Nat} {w X : World} (hsm : s.size ≤ 4096) (hE : Env w B L mb look) (hN : IsName w g cap s) (hgB : g < B) (hgL : g ≠ L)
    (hK : Kept B L w X) (hown : X.ownsRow B 5 1 (.slice v0 s.size c0) s.size (bytesV s)) : Good mb look v0 c0 s g cap X := by
  have hcW : Cells X g 0 s.data.toList := hN.cells.of_block (hK.block g hgB hgL)
  have hme : (⟨s.data.toList.toArray⟩ : ByteArray) = s := ba_ext (by simp)
  have hmap := (hE.kept hK).map
  refine ⟨fun n hn => ?_, fun lo => ?_, ?_, fun n => ?_, ?_⟩
  · rcases hown.2 with ⟨h1, h2⟩ | ⟨q, c, cur, h1, hq, hb, h3, hcm, hcs, htake⟩
    · simp only [Value.slice.injEq] at h1
      obtain ⟨rfl, h4, rfl⟩ := h1
      have : n = 0 := by omega
      subst this
      rw [reads_nil X 0 0 9 Ybad.underlying9]
      congr 2
      apply ba_ext
      rw [Lib.extract_data]
      simp [ByteArray.empty, ByteArray.emptyWithCapacity]
      rfl
    · simp only [Value.slice.injEq] at h1
      obtain ⟨rfl, _, rfl⟩ := h1
      have hc : Cells X q 0 s.data.toList := cells_of_row hb (rest := cur.toList.drop s.size) (by
        have := List.take_append_drop s.size cur.toList
        rw [Nat.mul_one] at htake
        rw [htake] at this
        exact this.symm)
      have := (hc.take n).reads n c0 (by have : s.data.toList.length = s.size := rfl; simp; omega) 9 Ybad.underlying9
      rw [this]
      congr 2
      apply ba_ext
      rw [Lib.extract_data]
      simp
  · have := (hcW.drop lo).reads (s.size - lo) (cap - lo) (by simp) 9 Ybad.underlying9
    rw [Nat.zero_add] at this
    rw [this]
    congr 2
    apply ba_ext
    rw [Lib.extract_data, List.take_of_length_le (by simp)]
  · have := hcW.reads s.size cap rfl 9 Ybad.underlying9
    rwa [hme] at this
  · refine hmap.run _ ?_
    have : (s.extract 0 n).size ≤ s.size := by simp [ByteArray.size_extract]; omega
    unfold maxLen
    omega
  · exact hmap.run _ (by unfold maxLen; omega)

/-- A world that the walk may come to. -/
def Ok (B L : Nat) (w : World) (v : Value) (s : ByteArray) (X : World) : Prop := Kept B L w X ∧ X.ownsRow B 5 1 v s.size (bytesV s)

structure At5 (w W : World) (B L mb : Nat) (v : Value) (s : ByteArray) (kn : Bool) : Prop where
  kept : Kept B L w W
  x0 : W.cell? ⟨L, 0, none⟩ = some (.map (some mb))
  x13 : W.cell? ⟨L, 13, none⟩ = some v
  x14 : W.cell? ⟨L, 14, none⟩ = some (.slice none 0 0)
  x15 : W.cell? ⟨L, 15, none⟩ = some (.string ⟨#[]⟩)
  x16 : ∃ t, W.cell? ⟨L, 16, none⟩ = some (.string t)
  x17 : W.cell? ⟨L, 17, none⟩ = some (.string ⟨#[]⟩)
  x18 : W.cell? ⟨L, 18, none⟩ = some (.bool kn)
  xf : ∀ o, W.frozen? ⟨L, o, none⟩ = false
  own : W.ownsRow B 5 1 v s.size (bytesV s)

theorem at5 {w w1 : World} {B L mb : Nat} {v f14 : Value} {f15 f16 f17 s : ByteArray} {kn : Bool} {v13 : Value} (hLB : L < B) (hK1 : Kept B L w w1) (hown1 : w1.ownsRow B 5 1 v s.size (bytesV s))
    (q0 : w1.cell? ⟨L, 0, none⟩ = some (.map (some mb))) (q13 : w1.cell? ⟨L, 13, none⟩ = some v13) (q14 : w1.cell? ⟨L, 14, none⟩ = some f14) (q15 : w1.cell? ⟨L, 15, none⟩ = some (.string f15))
    (q16 : w1.cell? ⟨L, 16, none⟩ = some (.string f16)) (q17 : w1.cell? ⟨L, 17, none⟩ = some (.string f17)) (q18 : w1.cell? ⟨L, 18, none⟩ = some (.bool kn)) (qf : ∀ o, w1.frozen? ⟨L, o, none⟩ = false) :
    At5 w (after5 w1 L v) B L mb v s kn := by
  unfold after5
  refine ⟨(((hK1.setCell 13 _).setCell 14 _).setCell 15 _).setCell 17 _, ?_, ?_, ?_, ?_, ⟨f16, ?_⟩, ?_, ?_, ?_, ?_⟩
  · simp [go_sem, q0]
  · simp [go_sem, q13]
  · simp [go_sem, q14]
  · simp [go_sem, q15]
  · simp [go_sem, q16]
  · simp [go_sem, q17]
  · simp [go_sem, q18]
  · intro o; simp [go_sem, qf]
  · exact ownsRow_setCell_below (ownsRow_setCell_below (ownsRow_setCell_below (ownsRow_setCell_below hown1 hLB _) hLB _) hLB _) hLB _

theorem own_drew {w : World} {B : Nat} {v : Value} {n : Nat} {xs : List Value} (h : w.ownsRow B 5 1 v n xs) : w.drew.ownsRow B 5 1 v n xs := h

/-- The struct as the two ways leave it. -/
theorem st_hit {w W : World} {B L mb : Nat} {look : ByteArray → ByteArray} {v f : Value} {s p t7 : ByteArray} {kn : Bool} (hLB : L < B) (hsm : s.size ≤ 4096) (H : At5 w W B L mb v s kn)
    (hf : f = famOf v s (firstHit s)) (hp : p = outP (firstHit s)) (X : World)
    (hX : X = (((((W.setCell ⟨L, 14, none⟩ f).setCell ⟨L, 15, none⟩ (.string p)).setCell ⟨L, 17, none⟩ (.string t7)).setCell ⟨L, 16, none⟩ (.string (look s))).setCell ⟨L, 18, none⟩ (.bool true)).drew.drew) :
    St X B L mb look v s true ∧ Kept B L w X := by
  subst hX
  obtain ⟨hK, x0, x13, x14, x15, ⟨t16, x16⟩, x17, x18, xf, hown⟩ := H
  refine ⟨⟨?_, ?_, ⟨f, ?_, fun _ => hf⟩, ⟨p, ?_, fun _ => hp⟩, ⟨look s, ?_, fun _ => rfl⟩, ⟨t7, ?_⟩, ?_, ?_, ?_, fun h => (by cases h), hsm⟩, ?_⟩
  · simp [go_sem, x0]
  · simp [go_sem, x13]
  · simp [go_sem, x14]
  · simp [go_sem, x15]
  · simp [go_sem, x16]
  · simp [go_sem, x17]
  · simp [go_sem, x18]
  · intro o; simp [go_sem, xf]
  · exact own_drew (own_drew (ownsRow_setCell_below (ownsRow_setCell_below (ownsRow_setCell_below (ownsRow_setCell_below (ownsRow_setCell_below hown hLB _) hLB _) hLB _) hLB _) hLB _))
  · exact ((((((hK.setCell 14 _).setCell 15 _).setCell 17 _).setCell 16 _).setCell 18 _).drew).drew

theorem st_none {w W : World} {B L mb : Nat} {look : ByteArray → ByteArray} {v : Value} {s : ByteArray} {kn : Bool} (hLB : L < B) (hsm : s.size ≤ 4096) (H : At5 w W B L mb v s kn)
    (hf : firstHit s = none) (X : World)
    (hX : X = ((W.setCell ⟨L, 16, none⟩ (.string (look s))).setCell ⟨L, 18, none⟩ (.bool true)).drew) :
    St X B L mb look v s true ∧ Kept B L w X := by
  subst hX
  obtain ⟨hK, x0, x13, x14, x15, ⟨t16, x16⟩, x17, x18, xf, hown⟩ := H
  refine ⟨⟨?_, ?_, ⟨.slice none 0 0, ?_, fun _ => ?_⟩, ⟨⟨#[]⟩, ?_, fun _ => ?_⟩, ⟨look s, ?_, fun _ => rfl⟩, ⟨⟨#[]⟩, ?_⟩, ?_, ?_, ?_, fun h => (by cases h), hsm⟩, ?_⟩
  · simp [go_sem, x0]
  · simp [go_sem, x13]
  · simp [go_sem, x14]
  · rw [hf]; unfold famOf; cases v <;> rfl
  · simp [go_sem, x15]
  · rw [hf]; rfl
  · simp [go_sem, x16]
  · simp [go_sem, x17]
  · simp [go_sem, x18]
  · intro o; simp [go_sem, xf]
  · exact own_drew (ownsRow_setCell_below (ownsRow_setCell_below hown hLB _) hLB _)
  · exact ((hK.setCell 16 _).setCell 18 _).drew

end Go.Proofs.YbulkjveDoor
