/-
  (*expositionLines).named, a name that is not the one asked before: the walk.
-/
import Derived.Test.YbulkjveDoorNamed0
namespace Go.Proofs.YbulkjveDoor
open Go.RowKit Go.Maps Go.WideMaps
set_option linter.unusedSimpArgs false
set_option linter.unusedVariables false

set_option maxHeartbeats 4000000 in
/-- Another name than before. -/
theorem named_other {w : World} {B L mb : Nat} {look : ByteArray → ByteArray} {s0 s : ByteArray} {g cap : Nat} {nv : Value} {kn : Bool} (hE : Env w B L mb look) (hS : St w B L mb look nv s0 kn) (hd : kn = true → (s.toList == s0.toList) = false) (hN : IsName w g cap s) (hgB : g < B) (hgL : g ≠ L) :
    Calls Ybad.prog 11 #[.pointer (some ⟨L, 0, none⟩), .slice (some ⟨g, 0, none⟩) s.size cap] w fun e w' => e = .returned (.pointer (some ⟨L, 13, none⟩)) ∧ ∃ nv', St w' B L mb look nv' s true ∧ Kept B L w w' := by
  obtain ⟨i0, hi, hz0, hz1, hz2⟩ := info_parts info5
  have hsm := hN.small
  have hLB := hE.L_lt
  have hBw := hE.size
  obtain ⟨tG, fG, hG⟩ := hE.parts
  -- the append
  have hsrc : ∀ j u, (bytesV s)[j]? = some u → w.cell? ((⟨g, 0, none⟩ : Addr).add j) = some u := by
    intro j u hu
    have hjl : j < s.data.toList.length := by
      rcases Nat.lt_or_ge j s.data.toList.length with h | h
      · exact h
      · simp [bytesV, List.getElem?_eq_none h] at hu
    have hadd : (⟨g, 0, none⟩ : Addr).add j = ⟨g, 0 + j, none⟩ := by unfold Addr.add; split <;> simp_all
    rw [hadd, hN.cells j hjl, ← hu]
    unfold bytesV
    rw [List.getElem?_map, List.getElem?_eq_getElem hjl]
    simp only [List.getD, List.getElem?_eq_getElem hjl]
    rfl
  have hone : ∀ u ∈ bytesV s, u.oneCell' = true := by
    intro u hu
    simp only [bytesV, List.mem_map] at hu
    obtain ⟨b, _, rfl⟩ := hu
    rfl
  obtain ⟨a0, n0, c0, hnv0, hown0, hob⟩ : ∃ a0 n0 c0, nv = .slice a0 n0 c0 ∧ w.ownsRow B 5 1 (.slice a0 0 c0) 0 [] ∧ ∀ k, (Value.slice a0 0 c0).ownBlock = some k → B ≤ k := by
    rcases hS.own.2 with ⟨h1, h2⟩ | ⟨q, c, cur, h1, hq, hb, h3, hcm, hcs, htake⟩
    · exact ⟨none, 0, 0, h1, World.ownsRow_nil w B 5 1, fun k hk => by simp [Value.ownBlock] at hk⟩
    · exact ⟨_, _, c, h1, ⟨by simp, .inr ⟨q, c, cur, rfl, hq, hb, Nat.zero_le _, hcm, hcs, by simp⟩⟩, fun k hk => by simp [Value.ownBlock] at hk; omega⟩
  obtain ⟨nv', w1, hrun, hown1, hgr, hnil⟩ := run_append_own (P := Ybad.prog) w B 23 23 5 i0 (.int .u8 0) 1 1 Ybad.underlying23 hi hz0 hz1 hz2 rfl (by decide) (.slice a0 0 c0) 0 [] hown0
    ⟨g, 0, none⟩ s.size cap (bytesV s) (by rw [bytesV, List.length_map, Nat.mul_one]; rfl) hsrc hone (by unfold maxLen; omega) (by omega) hBw
  simp only [Nat.zero_add, List.nil_append] at hown1
  obtain ⟨a', c', hnv⟩ : ∃ a' c', nv' = .slice a' s.size c' := by
    rcases hown1.2 with ⟨h1, h2⟩ | ⟨q, c, cur, h1, _⟩
    · exact ⟨none, 0, by rw [h1, h2]⟩
    · exact ⟨_, c, h1⟩
  rw [hnv] at hrun hown1
  clear hnv
  have hL1 : w1.heap[L]? = w.heap[L]? := hgr.block L (by omega) (fun e => by have := hob L e.symm; omega)
  have hK1 : Kept B L w w1 := ⟨hgr.os, hgr.tape, hgr.output, hgr.size, fun k hk _ => hgr.block k (by omega) (fun e => by have := hob k e.symm; omega)⟩
  have q0 : w1.cell? ⟨L, 0, none⟩ = _ := (World.cell?_of_block (a := ⟨L, 0, none⟩) hL1).trans hS.c0
  have q13 : w1.cell? ⟨L, 13, none⟩ = _ := (World.cell?_of_block (a := ⟨L, 13, none⟩) hL1).trans hS.c13
  obtain ⟨f14, k14, _⟩ := hS.c14
  obtain ⟨f15, k15, _⟩ := hS.c15
  obtain ⟨f16, k16, _⟩ := hS.c16
  obtain ⟨f17, k17⟩ := hS.c17
  have q14 := (World.cell?_of_block (a := ⟨L, 14, none⟩) hL1).trans k14
  have q15 := (World.cell?_of_block (a := ⟨L, 15, none⟩) hL1).trans k15
  have q16 := (World.cell?_of_block (a := ⟨L, 16, none⟩) hL1).trans k16
  have q17 := (World.cell?_of_block (a := ⟨L, 17, none⟩) hL1).trans k17
  have q18 := (World.cell?_of_block (a := ⟨L, 18, none⟩) hL1).trans hS.c18
  have qf : ∀ o, w1.frozen? ⟨L, o, none⟩ = false := fun o => (World.frozen?_of_block (a := ⟨L, o, none⟩) hL1).trans (hS.fr o)
  have k13 := hS.c13
  have k18 := hS.c18
  have r2 := own_reads hS.own
  have r1 : Reads w (.slice (some ⟨g, 0, none⟩) s.size cap) s := by
    have := hN.cells.reads s.size cap rfl
    rwa [show (⟨s.data.toList.toArray⟩ : ByteArray) = s from ba_ext (by simp)] at this
  rw [hnv0] at k13 r2
  clear hS k14 k15 k16 k17 hnil hnv0 hown0 hob
  cases kn
  all_goals
   try have hd' := hd rfl
   clear hd
   go_enter Ybad.func11, Ybad.ntmps11
   go_wp2_with (first
    | (go_at_call 8; refine (equal_any' _ _ _ _ _ r1 r2).mono ?_; rintro e w' ⟨rfl, rfl⟩)
    | (at_builtin; refine wpList_append_run rfl _ _ 23 23 rfl _ _ rfl rfl _ _ hrun ?_)
    | (refine wpList_load_row rfl 46 _ rfl 0 rfl tG partsArr fG _ ?hG Ybad.underlying46 rfl (by kernel_rfl) ?_))
   case hG => 
     have := (((((hK1.setCell 13 (.slice a' s.size c')).setCell 14 (.slice none 0 0)).setCell 15 (.string ⟨#[]⟩)).setCell 17 (.string ⟨#[]⟩)).block 0 (by omega) hE.L_pos).trans hG
     exact this
   have H5 := at5 hLB hK1 hown1 q0 q13 q14 q15 q16 q17 q18 qf
   obtain ⟨W, hW⟩ : ∃ W, W = after5 w1 L (.slice a' s.size c') := ⟨_, rfl⟩
   rw [← hW] at H5
   have hW' := hW
   unfold after5 at hW'
   rw [← hW']
   clear hW hW' q0 q13 q14 q15 q16 q17 q18 qf hrun hsrc hone hown1 hK1 hL1 hG k13 k18 hgr
   have H5' : Hid (At5 w W B L mb (.slice a' s.size c') s _) := H5
   obtain ⟨hK, x0, x13, x14, x15, ⟨t16, x16⟩, x17, x18, xf, hown⟩ := H5
   have hgood : ∀ X, Kept B L w X → X.ownsRow B 5 1 (.slice a' s.size c') s.size (bytesV s) → Good mb look a' c' s g cap X := fun X h1 h2 => good_mk hsm hE hN hgB hgL h1 h2
   have gW : Ok B L w (.slice a' s.size c') s W := ⟨hK, hown⟩
   have gS : ∀ (X : World) (o : Nat) (u : Value), Ok B L w (.slice a' s.size c') s X → Ok B L w (.slice a' s.size c') s (X.setCell ⟨L, o, none⟩ u) := fun X o u h => ⟨h.1.setCell o u, ownsRow_setCell_below h.2 hLB u⟩
   have gD : ∀ (X : World), Ok B L w (.slice a' s.size c') s X → Ok B L w (.slice a' s.size c') s X.drew := fun X h => ⟨h.1.drew, h.2⟩
   have gN : ∀ (X : World) (n : Nat), Ok B L w (.slice a' s.size c') s X → Ok B L w (.slice a' s.size c') s (X.drewN n) := fun X n h => ⟨h.1.drewN n, h.2⟩
   have gR1 : ∀ (o o' : Nat) (u u' : Value), Ok B L w (.slice a' s.size c') s ((W.setCell ⟨L, o, none⟩ u).setCell ⟨L, o', none⟩ u').drew := fun o o' u u' => gD _ (gS _ _ _ (gS _ _ _ gW))
   have gR2 : ∀ (o o' o'' : Nat) (u u' u'' : Value), Ok B L w (.slice a' s.size c') s (((W.setCell ⟨L, o, none⟩ u).setCell ⟨L, o', none⟩ u').setCell ⟨L, o'', none⟩ u'').drew.drew := fun o o' o'' u u' u'' => gD _ (gD _ (gS _ _ _ (gS _ _ _ (gS _ _ _ gW))))
   have gfam : ∀ (X : World) (n : Nat), Ok B L w (.slice a' s.size c') s X → n ≤ s.size → (convert 23 9 (.slice a' n c')).run Ybad.prog X = .ok (.string (s.extract 0 n)) X := fun X n h => (hgood X h.1 h.2).fam n
   have gsub : ∀ (X : World) (lo : Nat), Ok B L w (.slice a' s.size c') s X → (convert 23 9 (.slice (some ⟨g, lo, none⟩) (s.size - lo) (cap - lo))).run Ybad.prog X = .ok (.string (s.extract lo s.size)) X := fun X n h => (hgood X h.1 h.2).sub n
   have gname : ∀ (X : World), Ok B L w (.slice a' s.size c') s X → (convert 23 9 (.slice (some ⟨g, 0, none⟩) s.size cap)).run Ybad.prog X = .ok (.string s) X := fun X h => (hgood X h.1 h.2).name
   have glook : ∀ (X : World) (n : Nat), Ok B L w (.slice a' s.size c') s X → (Instr.lookup 25 (.map (some mb)) (.string (s.extract 0 n)) false).run Ybad.prog X = .ok (.string (look (s.extract 0 n))) X := fun X n h => (hgood X h.1 h.2).lk n
   have gwhole : ∀ (X : World), Ok B L w (.slice a' s.size c') s X → (Instr.lookup 25 (.map (some mb)) (.string s) false).run Ybad.prog X = .ok (.string (look s)) X := fun X h => (hgood X h.1 h.2).whole
   have HG : Hid (∀ X, Ok B L w (.slice a' s.size c') s X → (Kept B L w X ∧ X.ownsRow B 5 1 (.slice a' s.size c') s.size (bytesV s))) := fun X h => h
   clear hgood
   have i0 : ∀ w, (Instr.index 46 (.agg partsArr) (.int .i64 0)).run Ybad.prog w = .ok (.string ⟨#[95, 98, 117, 99, 107, 101, 116]⟩) w := fun _ => by kernel_rfl
   have i1 : ∀ w, (Instr.index 46 (.agg partsArr) (.int .i64 1)).run Ybad.prog w = .ok (.string ⟨#[95, 99, 111, 117, 110, 116]⟩) w := fun _ => by kernel_rfl
   have i2 : ∀ w, (Instr.index 46 (.agg partsArr) (.int .i64 2)).run Ybad.prog w = .ok (.string ⟨#[95, 115, 117, 109]⟩) w := fun _ => by kernel_rfl
   have i3 : ∀ w, (Instr.index 46 (.agg partsArr) (.int .i64 3)).run Ybad.prog w = .ok (.string ⟨#[95, 99, 114, 101, 97, 116, 101, 100]⟩) w := fun _ => by kernel_rfl
   have hcc : s.size ≤ cap := hN.cap
   have hc' : s.size ≤ c' := by
     rcases hown.2 with ⟨h1, h2⟩ | ⟨q, c, cur, h1, _, _, h3, _⟩
     · omega
     · cases h1; exact h3
   go_loop [45] (fun i => ∃ k : Nat, k ≤ 4 ∧ i = .int .i64 k ∧ ∀ j, j < k → hitB s j = false) (fun i => 4 - (intOf i).toNat)
   case atStart => exact ⟨0, by omega, rfl, fun j hj => by omega⟩
   case round =>
     obtain ⟨k, hk, rfl, hn⟩ := hrel
     have HN : Hid (∀ j, j < k → hitB s j = false) := hn
     clear hn
     have hcase : k = 0 ∨ k = 1 ∨ k = 2 ∨ k = 3 ∨ k = 4 := by omega
     rcases hcase with rfl | rfl | rfl | rfl | rfl
     · go_wp2
       · go_region
         go_wp2
         go_region
         go_wp2
         go_ret
         have hh : hitB s 0 = true := hitB_mk (i := 0) (by show 7 < s.size; omega) (by assumption)
         have hF := firstHit_at (by omega) HN.out hh
         exact ⟨rfl, _, st_hit hLB hsm H5'.out (by rw [hF]; rfl) (by rw [hF]; rfl) _ rfl⟩
       all_goals exact ⟨⟨1, by omega, rfl, below_succ HN.out (by first | exact hitB_short (i := 0) (by show s.size ≤ 7; omega) | exact hitB_other (i := 0) (by assumption))⟩, by simp [intOf]⟩
     · go_wp2
       · go_region
         go_wp2
         go_region
         go_wp2
         go_ret
         have hh : hitB s 1 = true := hitB_mk (i := 1) (by show 6 < s.size; omega) (by assumption)
         have hF := firstHit_at (by omega) HN.out hh
         exact ⟨rfl, _, st_hit hLB hsm H5'.out (by rw [hF]; rfl) (by rw [hF]; rfl) _ rfl⟩
       all_goals exact ⟨⟨2, by omega, rfl, below_succ HN.out (by first | exact hitB_short (i := 1) (by show s.size ≤ 6; omega) | exact hitB_other (i := 1) (by assumption))⟩, by simp [intOf]⟩
     · go_wp2
       · go_region
         go_wp2
         go_region
         go_wp2
         go_ret
         have hh : hitB s 2 = true := hitB_mk (i := 2) (by show 4 < s.size; omega) (by assumption)
         have hF := firstHit_at (by omega) HN.out hh
         exact ⟨rfl, _, st_hit hLB hsm H5'.out (by rw [hF]; rfl) (by rw [hF]; rfl) _ rfl⟩
       all_goals exact ⟨⟨3, by omega, rfl, below_succ HN.out (by first | exact hitB_short (i := 2) (by show s.size ≤ 4; omega) | exact hitB_other (i := 2) (by assumption))⟩, by simp [intOf]⟩
     · go_wp2
       · go_region
         go_wp2
         go_region
         go_wp2
         go_ret
         have hh : hitB s 3 = true := hitB_mk (i := 3) (by show 8 < s.size; omega) (by assumption)
         have hF := firstHit_at (by omega) HN.out hh
         exact ⟨rfl, _, st_hit hLB hsm H5'.out (by rw [hF]; rfl) (by rw [hF]; rfl) _ rfl⟩
       all_goals exact ⟨⟨4, by omega, rfl, below_succ HN.out (by first | exact hitB_short (i := 3) (by show s.size ≤ 8; omega) | exact hitB_other (i := 3) (by assumption))⟩, by simp [intOf]⟩
     · go_wp2
       go_region
       go_wp2
       go_ret
       exact ⟨rfl, _, st_none hLB hsm H5'.out (firstHit_none HN.out) _ rfl⟩

end Go.Proofs.YbulkjveDoor
