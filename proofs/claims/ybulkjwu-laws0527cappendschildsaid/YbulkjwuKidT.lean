/-
  LawS0527CAppendsChild: the walk, the statements grow.
-/
import Derived.Test.YbulkjwuKid0
namespace Go.Proofs.Ybulkjwu
open Go.RowKit
set_option linter.unusedSimpArgs false
set_option linter.unusedVariables false

set_option maxRecDepth 100000 in
set_option maxHeartbeats 4000000 in
theorem law_T (nS nT pr kk ks : Nat) (se : Int) (hS : nS ≤ 255) (hT : nT ≤ 255) (hp : pr ≤ 255) (hse0 : 0 ≤ se) (hse1 : se ≤ 255) (inn : ByteArray) (hi : (inn.toList == [115, 99, 111, 112, 101, 115]) = false) (hks : ks < 4) (ht : se.tmod 4 = (ks : Int)) (hkk : kk < 60) (hpk : (pr : Int).tmod 60 = (kk : Int))
    (hin : ∀ h, ([Value.string ⟨#[115, 99, 111, 112, 101, 115]⟩, Value.string ⟨#[115, 116, 97, 116, 101, 109, 101, 110, 116, 115]⟩, Value.string ⟨#[]⟩, Value.string ⟨#[110, 97, 109, 101]⟩] : List Value)[ks]'h = .string inn) (w : World) :
    Calls Yba.prog 4 #[.int .u8 nS, .int .u8 nT, .int .u8 se, .int .u8 pr] w fun e w' => e = .returned (.bool true) ∧ Below w.heap.size w w' := by
  have m1 : ∀ W : World, (Instr.makeSlice 46 (.int .i64 0) (.int .i64 (nS : Int))).run Yba.prog W = .ok (.slice (some ⟨W.heap.size, 0, none⟩) 0 nS) (W.alloc (.cells (madeCells (Value.pointer none).cells nS) 42)) := fun W => mk46 nS (by omega) W
  have m2 : ∀ W : World, (Instr.makeSlice 46 (.int .i64 0) (.int .i64 (nT : Int))).run Yba.prog W = .ok (.slice (some ⟨W.heap.size, 0, none⟩) 0 nT) (W.alloc (.cells (madeCells (Value.pointer none).cells nT) 42)) := fun W => mk46 nT (by omega) W
  have hps : ∀ (W : World) (a : Addr), (binOp .neq 42 (.pointer (some a)) (.pointer (some a))).run Yba.prog W = .ok (.bool false) W := neq_same42
  have hpo : Hid (∀ (W : World) (a b : Addr) (ca cb : Array Value) (ta tb : TypeId), a ≠ b → W.heap[a.block]? = some (.cells ca ta (0, 0)) → W.heap[b.block]? = some (.cells cb tb (0, 0)) → (binOp .eql 42 (.pointer (some a)) (.pointer (some b))).run Yba.prog W = .ok (.bool false) W) := eql_other42
  go_enter Yba.func4, Yba.ntmps4
  go_wp2
  obtain ⟨C, hC⟩ : ∃ C, C = w.heap.size + 1 := ⟨_, rfl⟩
  have P0 : Par w (((w.alloc (.cells #[Value.string ⟨#[115, 99, 111, 112, 101, 115]⟩, Value.string ⟨#[115, 116, 97, 116, 101, 109, 101, 110, 116, 115]⟩, Value.string ⟨#[]⟩, Value.string ⟨#[110, 97, 109, 101]⟩] 41)).alloc (.cells (contCells PN 0 (.slice none 0 0) (.slice none 0 0)) 48)).alloc (.cells (madeCells (Value.pointer none).cells nS) 42))
      w.heap.size C (contCells PN 0 (.slice none 0 0) (.slice none 0 0)) (.slice none 0 0) (.slice (some ⟨w.heap.size + 1 + 1, 0, none⟩) 0 nS) (.slice none 0 0) (.slice none 0 0) [] [] := par_start w _ nS C hC (by omega)
  rw [← hC] at *
  go_loopw [12, 13] (fun o i wr => ∃ (k : Nat) (ps : List Nat) (a : Option Addr) (c : Nat), ps.length = k ∧ k ≤ nS ∧ i = .int .i64 k ∧ (∃ ao co, o = .slice ao k co) ∧ Par w wr w.heap.size C (contCells PN 0 (.slice a k c) (.slice none 0 0)) (.slice a k c) o (.slice none 0 0) (.slice none 0 0) ps []) (fun _ i _ => nS - (intOf i).toNat)
  case atStart => exact ⟨0, [], none, 0, rfl, Nat.zero_le _, rfl, ⟨_, _, rfl⟩, P0⟩
  case round =>
    clear P0 m1
    obtain ⟨k, ps, a, c, hl, hle, rfl, ⟨ao, co, rfl⟩, hP⟩ := hrel
    by_cases hlt : k < nS
    · obtain ⟨c7, _, f7, _, lC⟩ := par_cell hP
      have HP : Hid (Par w wr w.heap.size C (contCells PN 0 (.slice a k c) (.slice none 0 0)) (.slice a k c) (.slice ao k co) (.slice none 0 0) (.slice none 0 0) ps []) := hP
      have HL : Hid (ps.length = k) := hl
      have HV : Hid ((wr.alloc (.cells (contCells ⟨#[]⟩ ((k : Int) + 1) (.slice none 0 0) (.slice none 0 0)) 48)).ownsRow 0 42 1 (.slice a k c) k (ptrs ps)) := by have := hP.ownV.alloc (.cells (contCells ⟨#[]⟩ ((k : Int) + 1) (.slice none 0 0) (.slice none 0 0)) 48); rw [hl] at this; exact this
      clear hP hl
      go_wp2_with (first
        | (at_builtin; refine wpList_append42 rfl _ _ rfl rfl (wr.alloc (.cells (contCells ⟨#[]⟩ ((k : Int) + 1) (.slice none 0 0) (.slice none 0 0)) 48)) (.slice a k c) k (ptrs ps) _ (wr.heap.size + 1) (World.size_alloc _ _) rfl rfl HV.out (by omega) rfl ?_; intro w1 g cp hcp A1; have k7 : w1.cell? ⟨C, 7, none⟩ = some (.slice a k c) := cell_of_row _ _ 7 _ 48 (0, 0) (HP.out.mid rfl A1); have kf : w1.frozen? ⟨C, 7, none⟩ = false := frozen_of_row _ _ 7 _ 48 (HP.out.mid rfl A1))
        | (at_builtin; refine wpList_append42 rfl _ _ rfl rfl (w1.setCell ⟨C, 7, none⟩ (.slice (some ⟨g, 0, none⟩) (k + 1) cp)) (.slice ao k co) k (ptrs ps) _ w1.heap.size (sc_size _ _ _) rfl rfl (HP.out.own2 HL.out rfl A1) (by omega) rfl ?_; intro w2 g2 cp2 hcp2 A2))
      obtain ⟨N1, N2⟩ := HP.out.next HL.out rfl A1 A2 (cs' := contCells PN 0 (.slice (some ⟨g, 0, none⟩) (k + 1) cp) (.slice none 0 0)) rfl
      first
        | exact ⟨⟨k + 1, _, _, _, N2, by omega, by go_num, ⟨_, _, rfl⟩, N1⟩, by simp [intOf]; omega⟩
        | ((repeat apply Exists.intro); exact ⟨⟨⟨k + 1, _, _, _, N2, by omega, by go_num, ⟨_, _, rfl⟩, N1⟩, by simp [intOf]; omega⟩, rfl⟩)
    · have hk : k = nS := by omega
      subst hk
      obtain ⟨wo, rfl⟩ : ∃ wo : World, wo = wr := ⟨_, rfl⟩
      have HP1 : Hid (Par w wo w.heap.size C (contCells PN 0 (.slice a k c) (.slice none 0 0)) (.slice a k c) (.slice ao k co) (.slice none 0 0) (.slice none 0 0) ps []) := hP
      have HL1 : Hid (ps.length = k) := hl
      clear hP hl hle hlt
      go_wp2
      have P1 := par_second HP1.out nT (by omega)
      clear HP1 m2
      go_loopw [15, 16] (fun o i wr => ∃ (k2 : Nat) (qs : List Nat) (a2 : Option Addr) (c2 : Nat), qs.length = k2 ∧ k2 ≤ nT ∧ i = .int .i64 k2 ∧ (∃ ao2 co2, o = .slice ao2 k2 co2) ∧ Par w wr w.heap.size C (contCells PN 0 (.slice a k c) (.slice a2 k2 c2)) (.slice a2 k2 c2) o (.slice a k c) (.slice ao k co) qs ps) (fun _ i _ => nT - (intOf i).toNat)
      case atStart => exact ⟨0, [], none, 0, rfl, Nat.zero_le _, rfl, ⟨_, _, rfl⟩, P1⟩
      case round =>
        clear P1
        obtain ⟨k2, qs, a2, c2, hl2, hle2, rfl, ⟨ao2, co2, rfl⟩, hP⟩ := hrel
        by_cases hlt2 : k2 < nT
        · have hc : wr.heap[C]? = some (.cells (contCells PN 0 (.slice a k c) (.slice a2 k2 c2)) 48) := hP.par
          have c8 : wr.cell? ⟨C, 8, none⟩ = some (.slice a2 k2 c2) := cell_of_row _ _ 8 _ 48 (0, 0) hc
          have f8 : wr.frozen? ⟨C, 8, none⟩ = false := frozen_of_row _ _ 8 _ 48 hc
          have lC : C < wr.heap.size := (Array.getElem?_eq_some_iff.1 hc).1
          have HP : Hid (Par w wr w.heap.size C (contCells PN 0 (.slice a k c) (.slice a2 k2 c2)) (.slice a2 k2 c2) (.slice ao2 k2 co2) (.slice a k c) (.slice ao k co) qs ps) := hP
          have HL : Hid (qs.length = k2) := hl2
          have HV : Hid ((wr.alloc (.cells (contCells ⟨#[]⟩ ((k2 : Int) + 1) (.slice none 0 0) (.slice none 0 0)) 48)).ownsRow 0 42 1 (.slice a2 k2 c2) k2 (ptrs qs)) := by have := hP.ownV.alloc (.cells (contCells ⟨#[]⟩ ((k2 : Int) + 1) (.slice none 0 0) (.slice none 0 0)) 48); rw [hl2] at this; exact this
          clear hP hl2 hc
          go_wp2_with (first
            | (at_builtin; refine wpList_append42 rfl _ _ rfl rfl (wr.alloc (.cells (contCells ⟨#[]⟩ ((k2 : Int) + 1) (.slice none 0 0) (.slice none 0 0)) 48)) (.slice a2 k2 c2) k2 (ptrs qs) _ (wr.heap.size + 1) (World.size_alloc _ _) rfl rfl HV.out (by omega) rfl ?_; intro w1 g cp hcp A1; have k7 : w1.cell? ⟨C, 8, none⟩ = some (.slice a2 k2 c2) := cell_of_row _ _ 8 _ 48 (0, 0) (HP.out.mid rfl A1); have kf : w1.frozen? ⟨C, 8, none⟩ = false := frozen_of_row _ _ 8 _ 48 (HP.out.mid rfl A1))
            | (at_builtin; refine wpList_append42 rfl _ _ rfl rfl (w1.setCell ⟨C, 8, none⟩ (.slice (some ⟨g, 0, none⟩) (k2 + 1) cp)) (.slice ao2 k2 co2) k2 (ptrs qs) _ w1.heap.size (sc_size _ _ _) rfl rfl (HP.out.own2 HL.out rfl A1) (by omega) rfl ?_; intro w2 g2 cp2 hcp2 A2))
          obtain ⟨N1, N2⟩ := HP.out.next HL.out rfl A1 A2 (cs' := contCells PN 0 (.slice a k c) (.slice (some ⟨g, 0, none⟩) (k2 + 1) cp)) rfl
          first
            | exact ⟨⟨k2 + 1, _, _, _, N2, by omega, by go_num, ⟨_, _, rfl⟩, N1⟩, by simp [intOf]; omega⟩
            | ((repeat apply Exists.intro); exact ⟨⟨⟨k2 + 1, _, _, _, N2, by omega, by go_num, ⟨_, _, rfl⟩, N1⟩, by simp [intOf]; omega⟩, rfl⟩)
        · have hk2 : k2 = nT := by omega
          subst hk2
          obtain ⟨w2, rfl⟩ : ∃ w2 : World, w2 = wr := ⟨_, rfl⟩
          have HP2 : Hid (Par w w2 w.heap.size C (contCells PN 0 (.slice a k c) (.slice a2 k2 c2)) (.slice a2 k2 c2) (.slice ao2 k2 co2) (.slice a k c) (.slice ao k co) qs ps) := hP
          have HL2 : Hid (qs.length = k2) := hl2
          clear hP hl2 hle2 hlt2
          go_wp2
          have R0 := Rdy.start w2
          unfold rdr at R0
          go_loopw [20] (fun i wr => ∃ (n : Nat) (S : List Nat) (T t : Nat), n ≤ kk ∧ i = .int .i64 n ∧ Rdy w2 wr n S T t) (fun i _ => kk - (intOf i).toNat)
          case atStart => exact ⟨0, _, _, _, Nat.zero_le _, rfl, R0⟩
          case round =>
            clear R0
            obtain ⟨n, S, T, t, hn, rfl, R⟩ := hrel
            have HR : Hid (Rdy w2 wr n S T t) := R
            clear R
            by_cases hlt3 : n < kk
            · have hn60 : n < 60 := by omega
              go_wp2_with (go_at_call 9; refine (rpush HR.out.stk hn60 none ⟨#[]⟩ 0).mono ?_; rintro e w' ⟨rfl, hPu⟩)
              obtain ⟨S', T', t', R'⟩ := HR.out.push hPu
              first
                | exact ⟨⟨n + 1, S', T', t', by omega, by go_num, R'⟩, by simp [intOf]; omega⟩
                | ((repeat apply Exists.intro); exact ⟨⟨⟨n + 1, S', T', t', by omega, by go_num, R'⟩, by simp [intOf]; omega⟩, rfl⟩)
            · have hn3 : n = kk := by omega
              subst hn3
              obtain ⟨w3, rfl⟩ : ∃ w3 : World, w3 = wr := ⟨_, rfl⟩
              clear hn hlt3
              go_wp2_with fail
              refine (open_T inn hi HP2.out HL2.out HR.out hkk (by omega)).mono ?_
              rintro e w4 ⟨rfl, child, v', T', t', D⟩
              obtain ⟨gv, cv, rfl, RG⟩ := row_more D.ownV
              rw [HL2.out] at D RG
              have RO := row_at D.ownO HL2.out
              have RU := row_at D.ownU HL1.out
              have RX := row_at D.ownX HL1.out
              have RV : ∀ j, j < k2 → w4.cell? ⟨gv, j, none⟩ = some (.pointer (some ⟨qs.getD j 0, 0, none⟩)) := RG.1
              have RL : w4.cell? ⟨gv, k2, none⟩ = some (.pointer (some ⟨child, 0, none⟩)) := RG.2
              have o0 : w4.cell? ⟨w3.heap.size, 0, none⟩ = some (.pointer (some ⟨C, 0, none⟩)) := cell_of_row _ _ 0 _ 66 (0, 0) D.obj
              have o9 : w4.cell? ⟨w3.heap.size, 9, none⟩ = some (.string inn) := cell_of_row _ _ 9 _ 66 (0, 0) D.obj
              have cN : w4.cell? ⟨C, 0, none⟩ = some (.string ⟨#[112, 97, 114, 101, 110, 116]⟩) := cell_of_row _ _ 0 _ 48 (0, 0) D.par
              have c8 : w4.cell? ⟨C, 8, none⟩ = some (.slice (some ⟨gv, 0, none⟩) (k2 + 1) cv) := cell_of_row _ _ 8 _ 48 (0, 0) D.par
              have c7 : w4.cell? ⟨C, 7, none⟩ = some (.slice a k c) := cell_of_row _ _ 7 _ 48 (0, 0) D.par
              obtain ⟨S', hst⟩ := D.stk
              have r5 : w4.cell? ⟨w2.heap.size, 5, none⟩ = some (.int .i64 ((n : Int) + 1)) := by
                obtain ⟨f, m, u, hR⟩ := hst.rdr
                have := (get_rdr hR).2.2.2.1
                simpa using this
              have HST : Hid (∀ q, Calls Yba.prog 11 #[.pointer (some ⟨w2.heap.size, 0, none⟩)] (w4.drewN q) fun e w' => e = .returned (.pointer (some ⟨T', (t' - 1) * 10, none⟩)) ∧ ∃ m, w' = (w4.drewN q).drewN m) := fun q => ctop_any (hst.heap (w' := w4.drewN q) rfl) (by omega) (by omega)
              have HD : Hid (Done w w4 w.heap.size C w2.heap.size w3.heap.size n inn _ _ _ _ _ _ _ child T' t') := D
              have HRO : Hid (∀ j, j < k2 → ∃ g, ao2 = some ⟨g, 0, none⟩ ∧ w4.cell? ⟨g, j, none⟩ = some (.pointer (some ⟨qs.getD j 0, 0, none⟩))) := RO
              have HRU : Hid (∀ j, j < k → ∃ g, a = some ⟨g, 0, none⟩ ∧ w4.cell? ⟨g, j, none⟩ = some (.pointer (some ⟨ps.getD j 0, 0, none⟩))) := RU
              have HRX : Hid (∀ j, j < k → ∃ g, ao = some ⟨g, 0, none⟩ ∧ w4.cell? ⟨g, j, none⟩ = some (.pointer (some ⟨ps.getD j 0, 0, none⟩))) := RX
              have HRV : Hid (∀ j, j < k2 → w4.cell? ⟨gv, j, none⟩ = some (.pointer (some ⟨qs.getD j 0, 0, none⟩))) := RV
              clear D RG RO RU RX RV hst HR HP2
              go_wp2
              go_quiet (fail)
              go_wp2
              go_loopw [26] (fun i wr => ∃ j : Nat, j ≤ k ∧ i = .int .i64 j ∧ ∃ n, wr = w4.drewN n) (fun i _ => k - (intOf i).toNat)
              case atStart => exact ⟨0, Nat.zero_le _, rfl, _, rfl⟩
              case round =>
                obtain ⟨j, hj, rfl, n4, rfl⟩ := hrel
                by_cases hlt4 : j < k
                · obtain ⟨g1, rfl, q1⟩ := HRU.out j hlt4
                  obtain ⟨g2, rfl, q2⟩ := HRX.out j hlt4
                  go_wp2
                  go_quiet (fail)
                  go_wp2
                  exact ⟨⟨j + 1, by omega, by go_num, _, rfl⟩, by simp [intOf]; omega⟩
                · have hx4 := hlt4
                  go_wp2
                  go_loopw [27] (fun i wr => ∃ j : Nat, j ≤ k2 ∧ i = .int .i64 j ∧ ∃ n, wr = w4.drewN n) (fun i _ => k2 - (intOf i).toNat)
                  case atStart => exact ⟨0, Nat.zero_le _, rfl, _, rfl⟩
                  case round =>
                    obtain ⟨j5, hj, rfl, n5, rfl⟩ := hrel
                    by_cases hlt5 : j5 < k2
                    · obtain ⟨g1, rfl, q1⟩ := HRO.out j5 hlt5
                      have q2 := HRV.out j5 hlt5
                      go_wp2
                      go_quiet (fail)
                      go_wp2
                      exact ⟨⟨j5 + 1, by omega, by go_num, _, rfl⟩, by simp [intOf]; omega⟩
                    · have hx5 := hlt5
                      have ec : ∀ q, (binOp .eql 42 (.pointer (some ⟨child, 0, none⟩)) (.pointer (some ⟨C, 0, none⟩))).run Yba.prog (w4.drewN q) = .ok (.bool false) (w4.drewN q) := fun q => hpo.out (w4.drewN q) _ _ _ _ _ _ (fun e => HD.out.otherC (congrArg Addr.block e)) HD.out.kid HD.out.par
                      go_wp2
                      go_loopw [29] (fun i wr => ∃ j : Nat, j ≤ k2 ∧ i = .int .i64 j ∧ ∃ n, wr = w4.drewN n) (fun i _ => k2 - (intOf i).toNat)
                      case atStart => exact ⟨0, Nat.zero_le _, rfl, _, rfl⟩
                      case round =>
                        obtain ⟨j6, hj, rfl, n6, rfl⟩ := hrel
                        by_cases hlt6 : j6 < k2
                        · obtain ⟨g1, rfl, q1⟩ := HRO.out j6 hlt6
                          have ep : ∀ q, (binOp .eql 42 (.pointer (some ⟨child, 0, none⟩)) (.pointer (some ⟨qs.getD j6 0, 0, none⟩))).run Yba.prog (w4.drewN q) = .ok (.bool false) (w4.drewN q) := fun q => by
                            have hm : qs.getD j6 0 ∈ qs := getD_mem (by rw [HL2.out]; exact hlt6)
                            obtain ⟨cs, hcs⟩ := HD.out.live _ (.inl hm)
                            exact hpo.out (w4.drewN q) _ _ _ _ _ _ (fun e => HD.out.other _ (.inl hm) (congrArg Addr.block e)) HD.out.kid hcs
                          obtain ⟨p, hp6⟩ : ∃ p, p = qs.getD j6 0 := ⟨_, rfl⟩
                          rw [← hp6] at q1 ep
                          clear hp6
                          go_wp2
                          exact ⟨⟨j6 + 1, by omega, by go_num, _, rfl⟩, by simp [intOf]; omega⟩
                        · have hx6 := hlt6
                          go_wp2
                          go_loopw [30] (fun i wr => ∃ j : Nat, j ≤ k ∧ i = .int .i64 j ∧ ∃ n, wr = w4.drewN n) (fun i _ => k - (intOf i).toNat)
                          case atStart => exact ⟨0, Nat.zero_le _, rfl, _, rfl⟩
                          case round =>
                            obtain ⟨j7, hj, rfl, n7, rfl⟩ := hrel
                            by_cases hlt7 : j7 < k
                            · obtain ⟨g1, rfl, q1⟩ := HRX.out j7 hlt7
                              have ep : ∀ q, (binOp .eql 42 (.pointer (some ⟨child, 0, none⟩)) (.pointer (some ⟨ps.getD j7 0, 0, none⟩))).run Yba.prog (w4.drewN q) = .ok (.bool false) (w4.drewN q) := fun q => by
                                have hm : ps.getD j7 0 ∈ ps := getD_mem (by rw [HL1.out]; exact hlt7)
                                obtain ⟨cs, hcs⟩ := HD.out.live _ (.inr hm)
                                exact hpo.out (w4.drewN q) _ _ _ _ _ _ (fun e => HD.out.other _ (.inr hm) (congrArg Addr.block e)) HD.out.kid hcs
                              obtain ⟨p, hp7⟩ : ∃ p, p = ps.getD j7 0 := ⟨_, rfl⟩
                              rw [← hp7] at q1 ep
                              clear hp7
                              go_wp2
                              exact ⟨⟨j7 + 1, by omega, by go_num, _, rfl⟩, by simp [intOf]; omega⟩
                            · have hx7 := hlt7
                              have x0 : w4.cell? ⟨child, 0, none⟩ = some (.string ⟨#[]⟩) := cell_of_row _ _ 0 _ 48 (0, 0) HD.out.kid
                              have x1 : w4.cell? ⟨child, 1, none⟩ = some (.int .i64 0) := cell_of_row _ _ 1 _ 48 (0, 0) HD.out.kid
                              have x2 : w4.cell? ⟨child, 2, none⟩ = some (.pointer none) := cell_of_row _ _ 2 _ 48 (0, 0) HD.out.kid
                              have x3 : w4.cell? ⟨child, 3, none⟩ = some (.int .i64 0) := cell_of_row _ _ 3 _ 48 (0, 0) HD.out.kid
                              have x4 : w4.cell? ⟨child, 4, none⟩ = some (.slice none 0 0) := cell_of_row _ _ 4 _ 48 (0, 0) HD.out.kid
                              have x5 : w4.cell? ⟨child, 5, none⟩ = some (.int .i64 0) := cell_of_row _ _ 5 _ 48 (0, 0) HD.out.kid
                              have x6 : w4.cell? ⟨child, 6, none⟩ = some (.slice none 0 0) := cell_of_row _ _ 6 _ 48 (0, 0) HD.out.kid
                              have x7 : w4.cell? ⟨child, 7, none⟩ = some (.slice none 0 0) := cell_of_row _ _ 7 _ 48 (0, 0) HD.out.kid
                              have x8 : w4.cell? ⟨child, 8, none⟩ = some (.slice none 0 0) := cell_of_row _ _ 8 _ 48 (0, 0) HD.out.kid
                              obtain ⟨q, hq⟩ : ∃ q, q = (t' - 1) * 10 := ⟨_, rfl⟩
                              have y0 : w4.cell? ⟨T', q, none⟩ = some (.pointer (some ⟨child, 0, none⟩)) := by rw [hq]; exact HD.out.cells 0 (by omega)
                              have y1 : w4.cell? ⟨T', q + 1, none⟩ = some (.string inn) := by rw [hq]; exact HD.out.cells 1 (by omega)
                              have y2 : w4.cell? ⟨T', q + 1 + 1, none⟩ = some (.int .i64 k2) := by rw [hq]; have := HD.out.cells 2 (by omega); rw [HL2.out] at this; exact this
                              have y9 : w4.cell? ⟨T', q + 9, none⟩ = some (.string ⟨#[]⟩) := by rw [hq]; exact HD.out.cells 9 (by omega)
                              have Y : Hid (∀ j, j < 6 → w4.cell? ⟨T', q + 3 + j, none⟩ = some (.bool false)) := fun j hj => by
                                rw [hq, Nat.add_assoc, HD.out.cells (3 + j) (by omega)]
                                match j, hj with
                                | 0, _ => rfl
                                | 1, _ => rfl
                                | 2, _ => rfl
                                | 3, _ => rfl
                                | 4, _ => rfl
                                | 5, _ => rfl
                              rw [← hq] at HST
                              clear hq
                              go_wp2_with (go_at_call 11; refine (HST.out _).mono ?_; rintro e w' ⟨rfl, n8, rfl⟩)
                              go_loopw [32] (fun i wr => ∃ j : Nat, j ≤ 6 ∧ i = .int .i64 j ∧ ∃ n, wr = w4.drewN n) (fun i _ => 6 - (intOf i).toNat)
                              case atStart => exact ⟨0, Nat.zero_le _, rfl, _, rfl⟩
                              case round =>
                                obtain ⟨j8, hj, rfl, n9, rfl⟩ := hrel
                                by_cases hlt8 : j8 < 6
                                · have y := Y.out j8 hlt8
                                  go_wp2
                                  exact ⟨⟨j8 + 1, by omega, by go_num, _, rfl⟩, by simp [intOf]; omega⟩
                                · have hx8 := hlt8
                                  go_wp2
                                  go_ret
                                  exact ⟨rfl, below_drewN HD.out.below _⟩

end Go.Proofs.Ybulkjwu
