/-
  LawS0527AClose: the walk, a theorem a way.
-/
import Derived.Test.YbulkjwuLawA
import Derived.Lib.Builder
namespace Go.Proofs.Ybulkjwu
open Go.RowKit
set_option linter.unusedSimpArgs false
set_option linter.unusedVariables false


set_option maxRecDepth 100000 in
set_option maxHeartbeats 4000000 in
theorem law_more0 (ad : Option Addr) (nd cd : Nat) (pos : Int) (aa ab : Option Addr) (ca cb nb : Nat) (la lb : List Bool) (k st : Int) (w : World)
    (hna : Hid (la.length = 0)) (hnb : Hid (lb.length = nb)) (hd : nd ≤ 1024) (hca : 0 ≤ ca) (hcb : nb ≤ cb) (hb0 : 2 ≤ nb) (hb : nb ≤ 1024) (hk0 : 0 ≤ k) (hk1 : k ≤ 255) (hs0 : 0 ≤ st) (hs1 : st ≤ 255)
    (hA : Bools w aa la) (hB : Bools w ab lb) :
    Calls Yba.prog 3 #[.slice ad nd cd, .int .i64 pos, .slice aa 0 ca, .slice ab nb cb, .int .u8 k, .int .u8 st] w fun e w' => e = .returned (.bool true) ∧ Below w.heap.size w w' := by
  have hsn : ∀ (W : World) (a : Option Addr) (n c : Nat), (binOp .neq 22 (.slice a n c) (.slice none 0 0)).run Yba.prog W = .ok (.bool (!a.isNone)) W := fun W a n c => run_neq_slice_nil_any W 22 5 a n c 0 0 Yba.underlying22
  obtain ⟨j24, hj24⟩ : ∃ j, Yba.prog.info? 24 = some j := Option.isSome_iff_exists.1 (by kernel_rfl)
  have hps : ∀ (W : World) (a : Addr), (binOp .neq 28 (.pointer (some a)) (.pointer (some a))).run Yba.prog W = .ok (.bool false) W := fun W a => Lib.run_neq_ptr_same W a Yba.underlying28 hj24
  clear hj24
  obtain ⟨a1, c1, w1, run1, ng1, bs1, hc1, sp1, bel1⟩ := append_copy_n w aa ca 0 la hna (by omega) hA 23
  have hB1 : Bools w1 ab lb := hB.below bel1 (Nat.le_refl _)
  obtain ⟨a2, c2, w2, run2, ng2, bs2, hc2, sp2, bel2⟩ := append_copy_n w1 ab cb nb lb hnb (by omega) hB1 23
  have hs1w := bel1.size
  have hs2w := bel2.size
  have bw2 : Below w.heap.size w w2 := bel1.trans (bel2.mono hs1w)
  have bs1' : Bools w2 a1 la := bs1.below bel2 (Nat.le_refl _)
  have HA2 : Hid (Bools w2 aa la) := hA.below bw2 (Nat.le_refl _)
  have HB2 : Hid (Bools w2 ab lb) := hB.below bw2 (Nat.le_refl _)
  have H1 : Hid (Bools w2 a1 la) := bs1'
  have H2 : Hid (Bools w2 a2 lb) := bs2
  clear hA hB hB1 ng1 ng2 sp1 sp2 bs1 bs1' bs2 bel1 bel2
  go_enter Yba.func3, Yba.ntmps3
  go_wp2_with (first
    | (at_builtin; refine wpList_append_run rfl _ _ 23 23 rfl (.slice none 0 0) (.slice aa 0 ca) rfl rfl _ _ run1 ?_)
    | (at_builtin; refine wpList_append_run rfl _ _ 23 23 rfl (.slice none 0 0) (.slice ab nb cb) rfl rfl _ _ run2 ?_)
    | (go_at_call 5; refine (state_any _ _ hs0 hs1).mono ?_; rintro e w' ⟨⟨s5, rfl⟩, rfl⟩)
    | (go_at_call 6; refine (kind_any _ _ hk0 hk1).mono ?_; rintro e w' ⟨⟨s6, rfl⟩, rfl⟩))
  have HM := made_facts w2 (.slice a2 nb c2) (.slice ad nd cd) (.slice a1 0 c1) pos 1 (nb : Int) s5
  obtain ⟨W, hW⟩ : ∃ W, W = made w2 (.slice a2 nb c2) (.slice ad nd cd) (.slice a1 0 c1) pos 1 (nb : Int) s5 := ⟨_, rfl⟩
  rw [← hW] at HM
  unfold made at hW
  rw [← hW]
  clear hW run1 run2
  obtain ⟨hsc, hcC, hcR, hfR, hWs, hWb⟩ := HM
  refine (close_more (w2.heap.size + 1 + 1) (w2.heap.size + 1) w2.heap.size nb c2 a2 _ _ pos _ s5 s6 W hb0 (by omega) hc2 (by omega) (by omega) hsc hcC hcR hfR (by omega) (by omega) (by omega) (by omega) (by omega) (by omega)).mono ?_
  rintro e w3 ⟨rfl, ⟨⟨k0, k1, k2, k3, k4, k5, k6, k7, kf⟩, kR, size3, os3, tape3, out3, blk3⟩⟩
  have kC : w3.cell? ⟨w2.heap.size + 1, 0, none⟩ = some (.slice (some ⟨w2.heap.size, 0, none⟩) 1 1) := (World.cell?_of_block (a := ⟨w2.heap.size + 1, 0, none⟩) (blk3 (w2.heap.size + 1) (by omega) (by omega) (by omega))).trans hcC
  have hs3 : w2.heap.size + 1 + 1 < w3.heap.size := by omega
  have hs3b : w2.heap.size + 1 < w3.heap.size := by omega
  have hs3c : w2.heap.size < w3.heap.size := by omega
  have b23 : Below w2.heap.size w2 w3 := hWb.trans ⟨os3, tape3, out3, size3, fun k hk => blk3 k (by omega) (by omega) (by omega)⟩
  have HBel : Hid (∀ n, Below w2.heap.size w2 ((w3.alloc (.cells #[.string s6, .slice none 0 0] 36)).drewN n)) := fun n => below_drewN (b23.alloc (by omega) _) n
  have HFin : Hid (∀ n, Below w.heap.size w ((w3.alloc (.cells #[.string s6, .slice none 0 0] 36)).drewN n)) := fun n => bw2.trans ((HBel.out n).mono (by omega))
  unfold orEnd at k2
  clear blk3 size3 os3 tape3 out3 b23 hsc hcC hcR hfR hWs hWb bw2 hk0 hk1 hs0 hs1
  have HT : Hid ((lb.take (nb - 1)).length = nb - 1) := by show (lb.take (nb - 1)).length = nb - 1; rw [List.length_take, hnb.out]; omega
  have e0 := fun W => slice_last W ab nb cb (by omega) hcb
  have e1 : (nb : Int) - 1 ≤ (cb : Int) := by omega
  have e2 : ((nb : Int) - 1).toNat = nb - 1 := by omega
  go_wp2
  refine wp_region_quiet_lit (by kernel_rfl) (by kernel_rfl) ?_
  repeat (first | go_big_quiet_step ((first | (go_at_call_of 8 (Value.slice a1 0 c1); exact Calls.quiet_of (eq_any a1 aa c1 ca 0 la _ (by rw [hna.out]; omega) hna (H1.out.below (HBel.out _) (Nat.le_refl _)) (HA2.out.below (HBel.out _) (Nat.le_refl _)))) | (go_at_call 8; exact Calls.quiet_of (eq_any a2 ab c2 cb (nb - 1) (lb.take (nb - 1)) _ (by rw [HT.out]; omega) HT ((H2.out.below (HBel.out _) (Nat.le_refl _)).take (nb - 1)) ((HB2.out.below (HBel.out _) (Nat.le_refl _)).take (nb - 1)))))) | quiet_step ((first | (go_at_call_of 8 (Value.slice a1 0 c1); exact Calls.quiet_of (eq_any a1 aa c1 ca 0 la _ (by rw [hna.out]; omega) hna (H1.out.below (HBel.out _) (Nat.le_refl _)) (HA2.out.below (HBel.out _) (Nat.le_refl _)))) | (go_at_call 8; exact Calls.quiet_of (eq_any a2 ab c2 cb (nb - 1) (lb.take (nb - 1)) _ (by rw [HT.out]; omega) HT ((H2.out.below (HBel.out _) (Nat.le_refl _)).take (nb - 1)) ((HB2.out.below (HBel.out _) (Nat.le_refl _)).take (nb - 1)))))))
  refine wpQuiet_nil ?_
  intro _ hw'
  obtain ⟨nq, hw''⟩ := hw'
  subst hw''
  go_wp2
  go_ret
  exact ⟨rfl, HFin.out _⟩

set_option maxRecDepth 100000 in
set_option maxHeartbeats 4000000 in
theorem law_last (ad : Option Addr) (nd cd : Nat) (pos : Int) (aa ab : Option Addr) (ca cb na : Nat) (la lb : List Bool) (k st : Int) (w : World)
    (hna : Hid (la.length = na)) (hnb : Hid (lb.length = 1)) (hd : nd ≤ 1024) (hca : na ≤ ca) (hcb : 1 ≤ cb) (ha0 : 1 ≤ na) (ha : na ≤ 1024) (hk0 : 0 ≤ k) (hk1 : k ≤ 255) (hs0 : 0 ≤ st) (hs1 : st ≤ 255)
    (hA : Bools w aa la) (hB : Bools w ab lb) :
    Calls Yba.prog 3 #[.slice ad nd cd, .int .i64 pos, .slice aa na ca, .slice ab 1 cb, .int .u8 k, .int .u8 st] w fun e w' => e = .returned (.bool true) ∧ Below w.heap.size w w' := by
  have hsn : ∀ (W : World) (a : Option Addr) (n c : Nat), (binOp .neq 22 (.slice a n c) (.slice none 0 0)).run Yba.prog W = .ok (.bool (!a.isNone)) W := fun W a n c => run_neq_slice_nil_any W 22 5 a n c 0 0 Yba.underlying22
  obtain ⟨j24, hj24⟩ : ∃ j, Yba.prog.info? 24 = some j := Option.isSome_iff_exists.1 (by kernel_rfl)
  have hps : ∀ (W : World) (a : Addr), (binOp .neq 28 (.pointer (some a)) (.pointer (some a))).run Yba.prog W = .ok (.bool false) W := fun W a => Lib.run_neq_ptr_same W a Yba.underlying28 hj24
  clear hj24
  obtain ⟨a1, c1, w1, run1, ng1, bs1, hc1, sp1, bel1⟩ := append_copy_n w aa ca na la hna (by omega) hA 23
  have hB1 : Bools w1 ab lb := hB.below bel1 (Nat.le_refl _)
  obtain ⟨a2, c2, w2, run2, ng2, bs2, hc2, sp2, bel2⟩ := append_copy_n w1 ab cb 1 lb hnb (by omega) hB1 23
  have hs1w := bel1.size
  have hs2w := bel2.size
  have bw2 : Below w.heap.size w w2 := bel1.trans (bel2.mono hs1w)
  have bs1' : Bools w2 a1 la := bs1.below bel2 (Nat.le_refl _)
  have HA2 : Hid (Bools w2 aa la) := hA.below bw2 (Nat.le_refl _)
  have HB2 : Hid (Bools w2 ab lb) := hB.below bw2 (Nat.le_refl _)
  have H1 : Hid (Bools w2 a1 la) := bs1'
  have H2 : Hid (Bools w2 a2 lb) := bs2
  clear hA hB hB1 ng1 ng2 sp1 sp2 bs1 bs1' bs2 bel1 bel2
  go_enter Yba.func3, Yba.ntmps3
  go_wp2_with (first
    | (at_builtin; refine wpList_append_run rfl _ _ 23 23 rfl (.slice none 0 0) (.slice aa na ca) rfl rfl _ _ run1 ?_)
    | (at_builtin; refine wpList_append_run rfl _ _ 23 23 rfl (.slice none 0 0) (.slice ab 1 cb) rfl rfl _ _ run2 ?_)
    | (go_at_call 5; refine (state_any _ _ hs0 hs1).mono ?_; rintro e w' ⟨⟨s5, rfl⟩, rfl⟩)
    | (go_at_call 6; refine (kind_any _ _ hk0 hk1).mono ?_; rintro e w' ⟨⟨s6, rfl⟩, rfl⟩))
  have HM := made_facts w2 (.slice a2 1 c2) (.slice ad nd cd) (.slice a1 na c1) pos 1 ((na : Int) + 1) s5
  obtain ⟨W, hW⟩ : ∃ W, W = made w2 (.slice a2 1 c2) (.slice ad nd cd) (.slice a1 na c1) pos 1 ((na : Int) + 1) s5 := ⟨_, rfl⟩
  rw [← hW] at HM
  unfold made at hW
  rw [← hW]
  clear hW run1 run2
  obtain ⟨hsc, hcC, hcR, hfR, hWs, hWb⟩ := HM
  refine (close_last (w2.heap.size + 1 + 1) (w2.heap.size + 1) w2.heap.size c2 a2 _ _ pos _ s5 s6 W hc2 (by omega) (by omega) hsc hcC hcR hfR (by omega) (by omega) (by omega) (by omega) (by omega) (by omega)).mono ?_
  rintro e w3 ⟨rfl, ⟨⟨k0, k1, k2, k3, k4, k5, k6, k7, kf⟩, kR, size3, os3, tape3, out3, blk3⟩⟩
  have kC : w3.cell? ⟨w2.heap.size + 1, 0, none⟩ = some (.slice (some ⟨w2.heap.size, 0, none⟩) 1 1) := (World.cell?_of_block (a := ⟨w2.heap.size + 1, 0, none⟩) (blk3 (w2.heap.size + 1) (by omega) (by omega) (by omega))).trans hcC
  have hs3 : w2.heap.size + 1 + 1 < w3.heap.size := by omega
  have hs3b : w2.heap.size + 1 < w3.heap.size := by omega
  have hs3c : w2.heap.size < w3.heap.size := by omega
  have b23 : Below w2.heap.size w2 w3 := hWb.trans ⟨os3, tape3, out3, size3, fun k hk => blk3 k (by omega) (by omega) (by omega)⟩
  have HBel : Hid (∀ n, Below w2.heap.size w2 ((w3.alloc (.cells #[.string s6, .slice none 0 0] 36)).drewN n)) := fun n => below_drewN (b23.alloc (by omega) _) n
  have HFin : Hid (∀ n, Below w.heap.size w ((w3.alloc (.cells #[.string s6, .slice none 0 0] 36)).drewN n)) := fun n => bw2.trans ((HBel.out n).mono (by omega))
  unfold orEnd at k2
  clear blk3 size3 os3 tape3 out3 b23 hsc hcC hcR hfR hWs hWb bw2 hk0 hk1 hs0 hs1
  have HT : Hid ((lb.take 0).length = 0) := rfl
  go_wp2
  refine wp_region_quiet_lit (by kernel_rfl) (by kernel_rfl) ?_
  repeat (first | go_big_quiet_step ((first | (go_at_call_of 8 (Value.slice a1 na c1); exact Calls.quiet_of (eq_any a1 aa c1 ca na la _ (by rw [hna.out]; omega) hna (H1.out.below (HBel.out _) (Nat.le_refl _)) (HA2.out.below (HBel.out _) (Nat.le_refl _)))) | (go_at_call 8; exact Calls.quiet_of (eq_any a2 ab c2 cb 0 (lb.take 0) _ (by rw [HT.out]; omega) HT ((H2.out.below (HBel.out _) (Nat.le_refl _)).take 0) ((HB2.out.below (HBel.out _) (Nat.le_refl _)).take 0))))) | quiet_step ((first | (go_at_call_of 8 (Value.slice a1 na c1); exact Calls.quiet_of (eq_any a1 aa c1 ca na la _ (by rw [hna.out]; omega) hna (H1.out.below (HBel.out _) (Nat.le_refl _)) (HA2.out.below (HBel.out _) (Nat.le_refl _)))) | (go_at_call 8; exact Calls.quiet_of (eq_any a2 ab c2 cb 0 (lb.take 0) _ (by rw [HT.out]; omega) HT ((H2.out.below (HBel.out _) (Nat.le_refl _)).take 0) ((HB2.out.below (HBel.out _) (Nat.le_refl _)).take 0))))))
  refine wpQuiet_nil ?_
  intro _ hw'
  obtain ⟨nq, hw''⟩ := hw'
  subst hw''
  go_wp2
  go_ret
  exact ⟨rfl, HFin.out _⟩

end Go.Proofs.Ybulkjwu
