/-
  Insert at the end; Insert whichever way; search; leaf.
-/
import Derived.Test.YbulkjxiIns2
namespace Go.Proofs.Ybulkjxi
open Go.RowKit Go.Lib
set_option linter.unusedSimpArgs false
set_option linter.unusedVariables false

theorem append59 (w : World) (a : Option Addr) (n c vb : Nat) (x : ByteArray) (h : Strs w (.slice a n c) n) (hn : n ≤ 1000) (hv : w.heap[vb]? = some (.cells #[.string x] 59)) (ty : TypeId) :
    ∃ v' w', (Builtin.append_ #[51, 51] ty #[.slice a n c, .slice (some ⟨vb, 0, none⟩) 1 1]).run Yba.prog w = .ok v' w' ∧ Inserted w (.slice a n c) n (.returned v') w' := by
  obtain ⟨i0, hi, hz0, hz1, hz2⟩ := info_parts info59
  obtain ⟨ss, hown⟩ := h
  have hx : w.cell? ⟨vb, 0, none⟩ = some (.string x) := cell_of_row _ _ 0 _ 59 (0, 0) hv
  have hnews : ∀ j u, [Value.string x][j]? = some u → w.cell? ((⟨vb, 0, none⟩ : Addr).add j) = some u := by
    intro j u hu
    match j, hu with
    | 0, hu =>
      simp at hu
      subst hu
      rw [Addr.add_lit]
      exact hx
  have h1' : ∀ u ∈ [Value.string x], u.oneCell' = true := by intro u hu; simp at hu; subst hu; rfl
  obtain ⟨v', w', hrun, hown', hgr, hnil⟩ := run_append_own (P := Yba.prog) w 0 51 ty 59 i0 (.agg #[.string ⟨#[]⟩]) 1 24 Yba.underlying51 hi hz0 hz1 hz2 rfl (by decide) (.slice a n c) n _ hown ⟨vb, 0, none⟩ 1 1 [.string x] rfl hnews h1' (by unfold maxLen; omega) (by omega) (Nat.zero_le _)
  have hlies : v'.ownBlock = (Value.slice a n c).ownBlock ∨ ∃ g, v'.ownBlock = some g ∧ w.heap.size ≤ g := by
    rcases hown.2 with ⟨hv0, h0⟩ | ⟨g, cap, cur, hv0, hb, hg, hnc, hcm, hcs, htake⟩
    · rw [hv0] at hrun
      subst h0
      obtain ⟨v2, w2, hrun2, hown2, _, _⟩ := run_append_own (P := Yba.prog) w w.heap.size 51 ty 59 i0 (.agg #[.string ⟨#[]⟩]) 1 24 Yba.underlying51 hi hz0 hz1 hz2 rfl (by decide) (.slice none 0 0) 0 [] (World.ownsRow_nil w _ 59 1) ⟨vb, 0, none⟩ 1 1 [.string x] rfl hnews h1' (by unfold maxLen; omega) (by omega) (Nat.le_refl _)
      rw [hrun] at hrun2
      injection hrun2 with e1 e2
      subst e1
      rcases hown2.2 with ⟨rfl, h0⟩ | ⟨g, cap, cur, rfl, hb, _⟩
      · omega
      · exact .inr ⟨g, rfl, hb⟩
    · injection hv0 with e1 e2 e3
      subst e1 e3
      by_cases hroom : n + 1 ≤ c
      · have hr := run_append_room (P := Yba.prog) w 51 ty 59 i0 Yba.underlying51 hi g n c cur hg ⟨vb, 0, none⟩ 1 1 [.string x] (by simp [hz1]) hnews h1' hroom (by rw [hz1]; simp; omega)
        rw [hrun] at hr
        injection hr with e1 e2
        subst e1
        exact .inl rfl
      · have hr := run_append_grow (P := Yba.prog) w 51 ty 59 i0 (.agg #[.string ⟨#[]⟩]) Yba.underlying51 hi hz0 ⟨g, 0, none⟩ n c (ss.map Value.string) (by rw [hz1]; exact hown.1) (hown.cells (g := g) rfl) ⟨vb, 0, none⟩ 1 1 [.string x] (by simp [hz1]) hnews (by omega) (by omega) (growslice_fits (by omega) (by rw [hz2]; omega))
        rw [hrun] at hr
        injection hr with e1 e2
        subst e1
        exact .inr ⟨_, rfl, Nat.le_refl _⟩
  rcases hown'.2 with ⟨_, h0⟩ | ⟨g, cap, cur, hv', hb, hg, hnc, hcm, hcs, ht⟩
  · omega
  · subst hv'
    refine ⟨_, w', hrun, g, cap, rfl, ⟨ss ++ [x], ?_⟩, ⟨fun k hk hne => hgr.block k hk (fun e => hne e.symm), hlies, hgr.size, hgr.os, hgr.tape, hgr.output⟩⟩
    simpa using hown'

set_option maxHeartbeats 1000000 in
theorem ins_end {w : World} {a : Option Addr} {n c vb : Nat} {x : ByteArray} (h : Strs w (.slice a n c) n) (hn : n ≤ 1000) (hv : w.heap[vb]? = some (.cells #[.string x] 59)) :
    Calls Yba.prog 18 #[.slice a n c, .int .i64 n, .slice (some ⟨vb, 0, none⟩) 1 1] w (Inserted w (.slice a n c) n) := by
  obtain ⟨v', w', hr, hi⟩ := append59 w a n c vb x h hn hv 51
  obtain ⟨_, hnc, hm, h0, hx⟩ := h.cells
  have hc63 : c ≤ 9223372036854775807 := by unfold maxLen at hm; omega
  cases a with
  | none =>
    obtain ⟨rfl, rfl⟩ := h0 rfl
    clear h hv hx h0
    go_enter Yba.func18, Yba.ntmps18
    go_wp2_with (at_builtin; refine Lib.wpList_append_run _ rfl _ _ _ _ rfl _ _ rfl rfl _ _ hr ?_)
    go_ret
    exact hi
  | some y =>
    obtain ⟨g, cur, rfl, _⟩ := hx _ rfl
    clear h hv hx h0
    go_enter Yba.func18, Yba.ntmps18
    go_wp2_with (at_builtin; refine Lib.wpList_append_run _ rfl _ _ _ _ rfl _ _ rfl rfl _ _ hr ?_)
    all_goals
      go_ret
      first
        | exact hi
        | (have e : c = n := by assumption
           rw [e] at hi
           exact hi)

theorem ins_any {w : World} {a : Option Addr} {n c i vb : Nat} {x : ByteArray} (h : Strs w (.slice a n c) n) (hn : n ≤ 1000) (hi : i ≤ n) (hv : w.heap[vb]? = some (.cells #[.string x] 59)) (hne : (Value.slice a n c).ownBlock ≠ some vb) :
    Calls Yba.prog 18 #[.slice a n c, .int .i64 i, .slice (some ⟨vb, 0, none⟩) 1 1] w (Inserted w (.slice a n c) n) := by
  rcases Nat.lt_or_ge i n with hlt | hge
  · obtain ⟨_, hnc, hm, h0, hx⟩ := h.cells
    cases a with
    | none => have := (h0 rfl).1; omega
    | some y =>
      obtain ⟨g, cur, rfl, _⟩ := hx _ rfl
      rcases Nat.lt_or_ge c (n + 1) with hr | hr
      · exact ins_full h hlt hn hr hv
      · exact ins_room h hlt hr hv (fun e => hne (by rw [e]; rfl))
  · have e : i = n := by omega
    subst e
    exact ins_end h hn hv

theorem leaf_yes (q : Nat) (w : World) (h : w.cell? ⟨q, 1, none⟩ = some (.slice none 0 0)) : Calls Yba.prog 17 #[.pointer (some ⟨q, 0, none⟩)] w fun e w' => e = .returned (.bool true) ∧ w = w' := by
  have hs : ∀ (W : World), (binOp .eql 52 (.slice none 0 0) (.slice none 0 0)).run Yba.prog W = .ok (.bool true) W := fun W => by kernel_rfl
  go_enter Yba.func17, Yba.ntmps17
  go_wp2
  go_ret
  exact ⟨rfl, rfl⟩

theorem dd (w : World) (a b : Nat) : (w.drewN a).drewN b = w.drewN (a + b) := by
  simp only [World.drewN, Nat.add_assoc]

set_option maxHeartbeats 1000000 in
theorem search_none (q c : Nat) (a : Option Addr) (key : ByteArray) (w : World) (h0 : w.cell? ⟨q, 0, none⟩ = some (.slice a 0 c)) :
    Calls Yba.prog 16 #[.pointer (some ⟨q, 0, none⟩), .string key] w fun e w' => (∃ (i : Nat) (f : Bool), e = .returned (.tuple #[.int .i64 i, .bool f]) ∧ i ≤ 0 ∧ (f = true → i < 0)) ∧ ∃ m, w' = w.drewN m := by
  go_enter Yba.func16, Yba.ntmps16
  go_wp2
  go_quiet (fail)
  go_wp2
  refine wp_loop_rounds 1 ?_
  rw [rounds_succ]
  go_wp2
  go_quiet (fail)
  go_wp2
  go_ret2
  exact ⟨⟨0, false, rfl, Nat.le_refl _, fun h => by cases h⟩, _, dd _ _ _⟩

set_option maxHeartbeats 1000000 in
theorem search_some (q g n c : Nat) (key : ByteArray) (w : World) (hn : n ≤ 1000) (h0 : w.cell? ⟨q, 0, none⟩ = some (.slice (some ⟨g, 0, none⟩) n c)) (hs : ∀ j, j < n → ∃ s : ByteArray, w.cell? ⟨g, j, none⟩ = some (.string s)) :
    Calls Yba.prog 16 #[.pointer (some ⟨q, 0, none⟩), .string key] w fun e w' => (∃ (i : Nat) (f : Bool), e = .returned (.tuple #[.int .i64 i, .bool f]) ∧ i ≤ n ∧ (f = true → i < n)) ∧ ∃ m, w' = w.drewN m := by
  have HS : Hid (∀ j, j < n → ∃ s : ByteArray, w.cell? ⟨g, j, none⟩ = some (.string s)) := hs
  clear hs
  go_enter Yba.func16, Yba.ntmps16
  go_wp2
  go_quiet (fail)
  go_wp2
  go_loopw [6, 7] (fun l h wr => ∃ i j : Nat, i ≤ j ∧ j ≤ n ∧ l = .int .i64 i ∧ h = .int .i64 j ∧ ∃ m, wr = w.drewN m) (fun l h _ => (RowKit.intOf h).toNat - (RowKit.intOf l).toNat)
  case atStart => exact ⟨0, n, Nat.zero_le _, Nat.le_refl _, rfl, rfl, _, rfl⟩
  case round =>
    obtain ⟨i, j, hij, hjn, rfl, rfl, m1, rfl⟩ := hrel
    by_cases hlt : i < j
    · obtain ⟨s, hc⟩ := HS.out ((i + j) / 2) (by omega)
      go_wp2
      · refine ⟨⟨(i + j) / 2 + 1, j, by omega, hjn, by go_num, rfl, _, rfl⟩, ?_⟩
        simp [RowKit.intOf]
        omega
      · refine ⟨⟨i, (i + j) / 2, by omega, by omega, rfl, by go_num, _, rfl⟩, ?_⟩
        simp [RowKit.intOf]
        omega
    · have e : i = j := by omega
      subst e
      by_cases hin : i < n
      · obtain ⟨s, hc⟩ := HS.out i hin
        have hd : decide ((i : Int) < (n : Int)) = true := decide_eq_true (by omega)
        go_wp2
        go_quiet (fail)
        go_wp2
        go_ret2
        exact ⟨⟨i, _, rfl, hjn, fun _ => hin⟩, _, dd _ _ _⟩
      · have hd : decide ((i : Int) < (n : Int)) = false := decide_eq_false (by omega)
        go_wp2
        go_quiet (fail)
        go_wp2
        go_ret2
        exact ⟨⟨i, _, rfl, hjn, fun h => by cases h⟩, _, dd _ _ _⟩

end Go.Proofs.Ybulkjxi
