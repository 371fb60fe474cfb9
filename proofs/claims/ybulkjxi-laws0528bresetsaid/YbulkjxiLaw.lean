import Derived.Test.YbulkjxiLaw3
namespace Go.Proofs.Ybulkjxi
open Go.RowKit Go.Maps
set_option linter.unusedSimpArgs false
set_option linter.unusedVariables false

set_option maxRecDepth 100000 in
set_option maxHeartbeats 2000000 in
theorem law_walk (a : Option Addr) (n c : Nat) (w : World) (hn : n ≤ 1024) (hc : 0 < n → ∃ g off, a = some ⟨g, off, none⟩ ∧ ∀ j, j < n → ∃ t k v : Int, w.cell? ⟨g, off + j * 3, none⟩ = some (.int .u8 t) ∧ w.cell? ⟨g, off + j * 3 + 1, none⟩ = some (.int .u8 k) ∧ w.cell? ⟨g, off + j * 3 + 2, none⟩ = some (.int .i64 v) ∧
  0 ≤ t ∧ t ≤ 255 ∧ 0 ≤ k ∧ k ≤ 255 ∧ (Lit.int .i64 v).wf = true) :
    Calls Yba.prog 3 #[.slice a n c] w fun e w' => e = .returned (.bool true) ∧ Below w.heap.size w w' := by
  have HC : Hid (0 < n → ∃ g off, a = some ⟨g, off, none⟩ ∧ ∀ j, j < n → ∃ t k v : Int, w.cell? ⟨g, off + j * 3, none⟩ = some (.int .u8 t) ∧ w.cell? ⟨g, off + j * 3 + 1, none⟩ = some (.int .u8 k) ∧ w.cell? ⟨g, off + j * 3 + 2, none⟩ = some (.int .i64 v) ∧
    0 ≤ t ∧ t ≤ 255 ∧ 0 ≤ k ∧ k ≤ 255 ∧ (Lit.int .i64 v).wf = true) := hc
  clear hc
  go_enter Yba.func3, Yba.ntmps3
  go_wp2
  have P0 : Bt (w.alloc (.cells #[.map none] 25)) w.heap.size w.heap.size none (fun _ => none) (fun _ => 0) (fun _ => []) := .inl ⟨rfl, Nat.le_refl _, heap_alloc_new w _, fun _ _ => rfl⟩
  have Q0 : Below w.heap.size w (w.alloc (.cells #[.map none] 25)) := (Below.refl _ _).alloc (Nat.le_refl _) _
  go_loopw [20] (fun i wr => ∃ j : Nat, j ≤ n ∧ i = .int .i64 j ∧ ∃ mo f s Ss, Bt wr w.heap.size w.heap.size mo f s Ss ∧ Below w.heap.size w wr ∧ w.heap.size < wr.heap.size) (fun i _ => n - (intOf i).toNat)
  case atStart => exact ⟨0, Nat.zero_le _, rfl, _, _, _, _, P0, Q0, by simp⟩
  case round =>
    clear P0 Q0
    obtain ⟨j, hj, rfl, mo, f, s, Ss, hBt, hBel, hBl⟩ := hrel
    by_cases hlt : j < n
    · obtain ⟨g, off, ha, hcs⟩ := HC.out (by omega)
      subst ha
      obtain ⟨t, k, v, h1, h2, h3, t0, t1, k0, k1, hv⟩ := hcs j hlt
      clear hcs
      have hgl := World.block_lt_of_cell? w ⟨g, off + j * 3, none⟩ h1
      have g1 : wr.cell? ⟨g, off + j * 3, none⟩ = some (.int .u8 t) := (hBel.cell (p := ⟨g, off + j * 3, none⟩) hgl).trans h1
      have g2 : wr.cell? ⟨g, off + j * 3 + 1, none⟩ = some (.int .u8 k) := (hBel.cell (p := ⟨g, off + j * 3 + 1, none⟩) hgl).trans h2
      have g3 : wr.cell? ⟨g, off + j * 3 + 2, none⟩ = some (.int .i64 v) := (hBel.cell (p := ⟨g, off + j * 3 + 2, none⟩) hgl).trans h3
      obtain ⟨ti, hti⟩ : ∃ ti : Nat, t.tmod 12 = (ti : Int) := ⟨(t % 12).toNat, by rw [Int.tmod_eq_emod_of_nonneg t0]; omega⟩
      obtain ⟨ki, hki⟩ : ∃ ki : Nat, k.tmod 16 = (ki : Int) := ⟨(k % 16).toNat, by rw [Int.tmod_eq_emod_of_nonneg k0]; omega⟩
      have ht12 : ti < 12 := by rw [Int.tmod_eq_emod_of_nonneg t0] at hti; omega
      have hk16 : ki < 16 := by rw [Int.tmod_eq_emod_of_nonneg k0] at hki; omega
      have b1 : (ti : Int) + 1 ≤ 12 := by omega
      have b2 : (ki : Int) + 1 ≤ 16 := by omega
      have b3 : ((ti : Int) + 1).toNat = ti + 1 := by omega
      have b4 : ((ki : Int) + 1).toNat = ki + 1 := by omega
      have b5 : IntKind.i64.wrap ((ti : Int) + 1) = (ti : Int) + 1 := by rw [IntKind.wrap_i64]; omega
      have b6 : IntKind.i64.wrap ((ki : Int) + 1) = (ki : Int) + 1 := by rw [IntKind.wrap_i64]; omega
      have b7 : (0 : Int) ≤ (ti : Int) + 1 := by omega
      have b8 : (0 : Int) ≤ (ki : Int) + 1 := by omega
      have b9 : (ti : Int) ≤ (ti : Int) + 1 := by omega
      have b10 : (ki : Int) ≤ (ki : Int) + 1 := by omega
      have hsn := ext_name ti ht12
      have hsk := ext_key ki hk16
      obtain ⟨m1, m2⟩ := keyN_mem ki hk16
      have HX : Hid (∀ X : World, X.heap = (wr.alloc (.cells #[.int .u8 t, .int .u8 k, .int .i64 v] 27)).heap → Calls Yba.prog 4 #[.pointer (some ⟨w.heap.size, 0, none⟩), .string (nameOf ti), .string (keyOfN ki), .int .i64 v] X (Ended X w.heap.size w.heap.size)) := fun X hX =>
        bput_any (hBt.grow (fun k hk => by rw [hX]; exact Below.heap_alloc _ _ _ hk) (by rw [hX]; simp)) ht12 (by rw [hX]; simp; omega) _ _ hv m1 m2
      have HB : Hid (Below w.heap.size w wr) := hBel
      obtain ⟨nm, hnm⟩ : ∃ nm, nm = nameOf ti := ⟨_, rfl⟩
      obtain ⟨kn, hkn⟩ : ∃ kn, kn = keyOfN ki := ⟨_, rfl⟩
      rw [← hnm] at hsn HX
      rw [← hkn] at hsk HX
      clear hBt hBel h1 h2 h3 m1 m2 hnm hkn
      go_wp2
      go_region_with (go_at_call 4; refine (HX.out (wr.alloc (.cells #[.int .u8 t, .int .u8 k, .int .i64 v] 27)).drew rfl).mono ?_; rintro e w2 ⟨⟨x, rfl⟩, mo', f', s', Ss', hBt', hBel'⟩)
      all_goals
        have hfin : Below w.heap.size w w2 := HB.out.trans (((Below.refl _ _).alloc (by omega) (.cells #[.int .u8 t, .int .u8 k, .int .i64 v] 27)).drew.trans hBel')
        have hsz : w.heap.size < w2.heap.size := by
          have := hBel'.size
          have e : (wr.alloc (.cells #[.int .u8 t, .int .u8 k, .int .i64 v] 27)).drew.heap.size = wr.heap.size + 1 := World.size_alloc wr _
          omega
        go_wp2
        exact ⟨⟨j + 1, by omega, by go_num, mo', f', s', Ss', hBt', hfin, hsz⟩, by simp [intOf]; omega⟩
    · have hjn : j = n := by omega
      subst hjn
      obtain ⟨w1, rfl⟩ : ∃ w1 : World, w1 = wr := ⟨_, rfl⟩
      have HBt : Hid (Bt w1 w.heap.size w.heap.size mo f s Ss) := hBt
      have HBel : Hid (Below w.heap.size w w1) := hBel
      clear hBt hBel hlt hj
      go_wp2
      have A0 := Arr.start w1 f s #[.pointer none, .pointer none, .pointer none, .pointer none, .pointer none, .pointer none, .pointer none, .pointer none, .pointer none, .pointer none, .pointer none, .pointer none] #[.int .i64 0, .int .i64 0, .int .i64 0, .int .i64 0, .int .i64 0, .int .i64 0, .int .i64 0, .int .i64 0, .int .i64 0, .int .i64 0, .int .i64 0, .int .i64 0] rfl rfl
      go_loopw [10, 11] (fun cv iv wr => ∃ i : Nat, i ≤ 12 ∧ iv = .int .i64 i ∧ cv = .int .i64 (cnt f i) ∧ Arr w1 wr f s i) (fun _ iv _ => 12 - (intOf iv).toNat)
      case atStart => exact ⟨0, Nat.zero_le _, rfl, rfl, A0⟩
      case round =>
        clear A0
        obtain ⟨i, hi, rfl, rfl, A⟩ := hrel
        by_cases hlt2 : i < 12
        · obtain ⟨pc, p1, p2, p3⟩ := A.ptr
          obtain ⟨nc, n1, n2, n3⟩ := A.num
          obtain ⟨uP, cP⟩ : ∃ u, wr.cell? ⟨w1.heap.size, i, none⟩ = some u := ⟨pc[i]'(by omega), by rw [cell_of_row _ _ _ _ 30 (0, 0) p1, Array.getElem?_eq_getElem (by omega)]⟩
          have fP : wr.frozen? ⟨w1.heap.size, i, none⟩ = false := frozen_of_row _ _ _ _ 30 p1
          obtain ⟨uN, cN⟩ : ∃ u, wr.cell? ⟨w1.heap.size + 1, i, none⟩ = some u := ⟨nc[i]'(by omega), by rw [cell_of_row _ _ _ _ 31 (0, 0) n1, Array.getElem?_eq_getElem (by omega)]⟩
          have fN : wr.frozen? ⟨w1.heap.size + 1, i, none⟩ = false := frozen_of_row _ _ _ _ 31 n1
          have b1 : (i : Int) + 1 ≤ 12 := by omega
          have b3 : ((i : Int) + 1).toNat = i + 1 := by omega
          have b5 : IntKind.i64.wrap ((i : Int) + 1) = (i : Int) + 1 := by rw [IntKind.wrap_i64]; omega
          have b7 : (0 : Int) ≤ (i : Int) + 1 := by omega
          have b9 : (i : Int) ≤ (i : Int) + 1 := by omega
          have hsn := ext_name i hlt2
          have hsl := slice_name i hlt2
          have HT : Hid (Calls Yba.prog 5 #[.pointer (some ⟨w.heap.size, 0, none⟩), .string (nameOf i)] wr fun e w' => e = .returned (ptrVal (f i)) ∧ wr = w') := table_any (HBt.out.grow A.block (by rw [A.size]; omega)) hlt2
          have HA : Hid (Arr w1 wr f s i) := A
          have hcs := cnt_succ f i
          have hc12 : cnt f i ≤ 12 := by
            have := List.length_filter_le (fun i => (f i).isSome) (List.range i)
            rw [List.length_range] at this
            unfold cnt
            omega
          obtain ⟨nm, hnm⟩ : ∃ nm, nm = nameOf i := ⟨_, rfl⟩
          rw [← hnm] at hsn hsl HT
          clear A p1 p2 p3 n1 n2 n3 hnm
          cases hf : f i with
          | none =>
            have HS : Hid (Arr w1 ((wr.setCell ⟨w1.heap.size, i, none⟩ (.pointer none)).setCell ⟨w1.heap.size + 1, i, none⟩ (.int .i64 0)) f s (i + 1)) := by
              have := HA.out.step hlt2
              rw [show numOf f s i = 0 by simp [numOf, hf], hf] at this
              exact this
            rw [hf] at HT
            unfold ptrVal at HT
            rw [hf] at hcs
            simp only [Option.isSome_none, Bool.false_eq_true, if_false, Nat.add_zero] at hcs
            go_wp2_with (first
              | (go_at_call 5; refine HT.out.mono ?_; rintro e w' ⟨rfl, rfl⟩)
              | (go_at_call 6; refine (len_nil _).mono ?_; rintro e w' ⟨rfl, rfl⟩))
            exact ⟨⟨i + 1, by omega, by go_num, by rw [hcs], HS.out⟩, by simp [intOf]; omega⟩
          | some p =>
            have HL : Hid (∀ u : Value, Calls Yba.prog 6 #[.pointer (some ⟨p, 0, none⟩)] (wr.setCell ⟨w1.heap.size, i, none⟩ u) fun e w' => e = .returned (.int .i64 (s i)) ∧ wr.setCell ⟨w1.heap.size, i, none⟩ u = w') := fun u => by
              have hB2 := HBt.out.grow (w' := wr.setCell ⟨w1.heap.size, i, none⟩ u) (fun k hk => (sc_other _ _ (by omega)).trans (HA.out.block k hk)) (by rw [sc_size, HA.out.size]; omega)
              rcases hB2 with ⟨_, _, _, hnone⟩ | ⟨M, D, _, hB3⟩
              · rw [hnone i hlt2] at hf
                cases hf
              · exact len_some (hB3.tab i p hlt2 hf).1
            have HS : Hid (Arr w1 ((wr.setCell ⟨w1.heap.size, i, none⟩ (.pointer (some ⟨p, 0, none⟩))).setCell ⟨w1.heap.size + 1, i, none⟩ (.int .i64 (s i))) f s (i + 1)) := by
              have := HA.out.step hlt2
              rw [show numOf f s i = s i by simp [numOf, hf], hf] at this
              exact this
            rw [hf] at HT
            unfold ptrVal at HT
            rw [hf] at hcs
            simp only [Option.isSome_some, if_true] at hcs
            obtain ⟨si, hsi⟩ : ∃ si, si = s i := ⟨_, rfl⟩
            rw [← hsi] at HL HS
            clear hsi
            go_wp2_with (first
              | (go_at_call 5; refine HT.out.mono ?_; rintro e w' ⟨rfl, rfl⟩)
              | (go_at_call 6; refine (HL.out _).mono ?_; rintro e w' ⟨rfl, rfl⟩))
            exact ⟨⟨i + 1, by omega, by go_num, by rw [hcs]; simp, HS.out⟩, by simp [intOf]; omega⟩
        · have hi12 : i = 12 := by omega
          subst hi12
          obtain ⟨w2, rfl⟩ : ∃ w2 : World, w2 = wr := ⟨_, rfl⟩
          have hBt2 := HBt.out.grow A.block (by rw [A.size]; omega)
          have HB2 : Hid (Bt w2 w.heap.size w.heap.size mo f s Ss) := hBt2
          have hc12 : cnt f 12 ≤ 12 := by
            have := List.length_filter_le (fun i => (f i).isSome) (List.range 12)
            rw [List.length_range] at this
            unfold cnt
            omega
          have HLEN : Hid (∃ mv, w2.cell? ⟨w.heap.size, 0, none⟩ = some (.map mv) ∧ ∀ ty, (Builtin.len_ #[23] ty #[.map mv]).run Yba.prog w2 = .ok (.int .i64 (cnt f 12)) w2) := by
            rcases hBt2 with ⟨_, _, hc, hnone⟩ | ⟨M, D, _, h⟩
            · exact ⟨none, cell_of_row _ _ 0 _ 25 (0, 0) hc, fun ty => by rw [cnt_none 12 hnone]; exact Maps.len_nil Yba.underlying23 ty⟩
            · exact ⟨some M, cell_of_row _ _ 0 _ 25 (0, 0) h.cell, fun ty => by rw [← h.tm.size h.map]; exact h.map.len Yba.underlying23 ty⟩
          obtain ⟨mv, cb, hlen⟩ := HLEN.out
          have HA2 : Hid (Arr w1 w2 f s 12) := A
          have HRS : Hid (Calls Yba.prog 7 #[.pointer (some ⟨w.heap.size, 0, none⟩)] w2 fun e w' => e = .returned (.tuple #[]) ∧ ∃ mo' f' s' Ss', Bt w' w.heap.size w.heap.size mo' f' s' Ss' ∧ ResetTo w2 w' w.heap.size mo f s Ss mo' f' s' Ss') := reset_any hBt2 (by rw [A.size]; omega)
          clear A hBt2 HLEN
          go_wp2_with (first
            | (simp only [hlen])
            | (go_at_call 7; refine HRS.out.mono ?_; rintro e w3 ⟨rfl, mo', f', s', Ss', hBt3, hRT⟩))
          have HB3 : Hid (Bt w3 w.heap.size w.heap.size mo' f' s' Ss') := hBt3
          have HRT : Hid (ResetTo w2 w3 w.heap.size mo f s Ss mo' f' s' Ss') := hRT
          clear hBt3 hRT
          go_loopw [12, 13] (fun kv iv wr => ∃ i : Nat, i ≤ 12 ∧ iv = .int .i64 i ∧ kv = .int .i64 (cnt f' i) ∧ wr = w3) (fun _ iv _ => 12 - (intOf iv).toNat)
          case atStart => exact ⟨0, Nat.zero_le _, rfl, rfl, rfl⟩
          case round =>
            obtain ⟨i, hi, rfl, rfl, rfl⟩ := hrel
            by_cases hlt3 : i < 12
            · obtain ⟨cP3, cN3⟩ := arr_kept HBt.out HA2.out HRT.out i hlt3
              have b1 : (i : Int) + 1 ≤ 12 := by omega
              have b3 : ((i : Int) + 1).toNat = i + 1 := by omega
              have b5 : IntKind.i64.wrap ((i : Int) + 1) = (i : Int) + 1 := by rw [IntKind.wrap_i64]; omega
              have b7 : (0 : Int) ≤ (i : Int) + 1 := by omega
              have b9 : (i : Int) ≤ (i : Int) + 1 := by omega
              have hsn := ext_name i hlt3
              have hsl := slice_name i hlt3
              have HT : Hid (Calls Yba.prog 5 #[.pointer (some ⟨w.heap.size, 0, none⟩), .string (nameOf i)] wr fun e w' => e = .returned (ptrVal (f' i)) ∧ wr = w') := table_any HB3.out hlt3
              have hcs := cnt_succ f' i
              have hc3 : cnt f' i ≤ 12 := by
                have := List.length_filter_le (fun i => (f' i).isSome) (List.range i)
                rw [List.length_range] at this
                unfold cnt
                omega
              obtain ⟨nm, hnm⟩ : ∃ nm, nm = nameOf i := ⟨_, rfl⟩
              rw [← hnm] at hsn hsl HT
              clear hnm
              by_cases hmany : 8 < cnt f 12
              · have hfi := (HRT.out.many hmany).2 i hlt3
                rw [hfi] at HT hcs
                unfold ptrVal at HT
                simp only [Option.isSome_none, Bool.false_eq_true, if_false, Nat.add_zero] at hcs
                have hd : (8 : Int) < (cnt f 12 : Int) := by omega
                go_wp2_with (go_at_call 5; refine HT.out.mono ?_; rintro e w' ⟨rfl, rfl⟩)
                go_roundw
                case rel => (repeat apply Exists.intro); exact ⟨⟨i + 1, by omega, by go_num, by rw [hcs], trivial⟩, rfl⟩
                case measure => simp [intOf]; omega
              · have hd : (cnt f 12 : Int) ≤ 8 := by omega
                obtain ⟨hfi, hsi⟩ := (HRT.out.few hmany).2 i hlt3
                cases hf : f i with
                | none =>
                  have hn' : f' i = none := by rw [hfi, hf]; simp
                  rw [hf] at cP3
                  rw [hn'] at HT hcs
                  unfold ptrVal at HT cP3
                  simp only [Option.isSome_none, Bool.false_eq_true, if_false, Nat.add_zero] at hcs
                  clear hfi hsi hf hn' cN3
                  go_wp2_with (go_at_call 5; refine HT.out.mono ?_; rintro e w' ⟨rfl, rfl⟩)
                  go_roundw
                  case rel => (repeat apply Exists.intro); exact ⟨⟨i + 1, by omega, by go_num, by rw [hcs], trivial⟩, rfl⟩
                  case measure => simp [intOf]; omega
                | some p =>
                  rw [show numOf f s i = s i by simp [numOf, hf]] at cN3
                  rw [hf] at cP3
                  by_cases h8 : s i ≤ 8
                  · have hn' : f' i = some p := by rw [hfi, if_pos h8, hf]
                    have hs0 := hsi (by rw [hn']; rfl)
                    have HL : Hid (Calls Yba.prog 6 #[.pointer (some ⟨p, 0, none⟩)] wr fun e w' => e = .returned (.int .i64 0) ∧ wr = w') := by
                      rcases HB3.out with ⟨_, _, _, hnone⟩ | ⟨M, D, _, hB3⟩
                      · rw [hnone i hlt3] at hn'
                        cases hn'
                      · have := len_some (hB3.tab i p hlt3 hn').1
                        rw [hs0] at this
                        exact this
                    rw [hn'] at HT hcs
                    unfold ptrVal at HT cP3
                    simp only [Option.isSome_some, if_true] at hcs
                    have hne : ∀ W : World, (binOp .neq 29 (.pointer (some ⟨p, 0, none⟩)) (.pointer (some ⟨p, 0, none⟩))).run Yba.prog W = .ok (.bool false) W := fun W => Lib.run_neq_ptr_same W _ Yba.underlying29 (j := _) rfl
                    obtain ⟨si, hsi'⟩ : ∃ si, si = s i := ⟨_, rfl⟩
                    rw [← hsi'] at cN3 h8
                    have h8' : (si : Int) ≤ 8 := by omega
                    clear hfi hsi hf hn' hs0 hsi' h8
                    go_wp2_with (first
                      | (go_at_call 5; refine HT.out.mono ?_; rintro e w' ⟨rfl, rfl⟩)
                      | (go_at_call 6; refine HL.out.mono ?_; rintro e w' ⟨rfl, rfl⟩))
                    go_roundw
                    case rel => (repeat apply Exists.intro); exact ⟨⟨i + 1, by omega, by go_num, by rw [hcs]; simp, trivial⟩, rfl⟩
                    case measure => simp [intOf]; omega
                  · have hn' : f' i = none := by rw [hfi, if_neg h8]
                    rw [hn'] at HT hcs
                    unfold ptrVal at HT cP3
                    simp only [Option.isSome_none, Bool.false_eq_true, if_false, Nat.add_zero] at hcs
                    obtain ⟨si, hsi'⟩ : ∃ si, si = s i := ⟨_, rfl⟩
                    rw [← hsi'] at cN3 h8
                    have h8' : (8 : Int) < (si : Int) := by omega
                    clear hfi hsi hf hn' hsi' h8
                    go_wp2_with (go_at_call 5; refine HT.out.mono ?_; rintro e w' ⟨rfl, rfl⟩)
                    go_roundw
                    case rel => (repeat apply Exists.intro); exact ⟨⟨i + 1, by omega, by go_num, by rw [hcs], trivial⟩, rfl⟩
                    case measure => simp [intOf]; omega
            · have hi12 : i = 12 := by omega
              subst hi12
              obtain ⟨cb3, hlen3⟩ := HB3.out.len
              have HRS2 : Hid (Calls Yba.prog 7 #[.pointer (some ⟨w.heap.size, 0, none⟩)] wr fun e w' => e = .returned (.tuple #[]) ∧ ∃ mo'' f'' s'' Ss'', Bt w' w.heap.size w.heap.size mo'' f'' s'' Ss'' ∧ ResetTo wr w' w.heap.size mo' f' s' Ss' mo'' f'' s'' Ss'') := reset_any HB3.out (by have := HB3.out.lt.1; omega)
              have HFin : Hid (Below w.heap.size w wr) := (HA2.out.below HBel.out (by have := HBt.out.lt.1; omega)).trans (HRT.out.below HB2.out)
              have hc3 : cnt f' 12 ≤ 12 := by
                have := List.length_filter_le (fun i => (f' i).isSome) (List.range 12)
                rw [List.length_range] at this
                unfold cnt
                omega
              clear hi hlt3
              by_cases hmany : 8 < cnt f 12
              · obtain rfl : mo' = none := (HRT.out.many hmany).1
                have hd : (8 : Int) < (cnt f 12 : Int) := by omega
                have hneq : ∀ W : World, (binOp .neq 23 (.map none) (.map none)).run Yba.prog W = .ok (.bool false) W := fun W => by kernel_rfl
                have heq := fun W : World => eqlNil23 W
                go_wp2_with (first
                  | (simp only [hlen3])
                  | (go_at_call 7
                     refine HRS2.out.mono ?_
                     rintro e w4 ⟨rfl, mo'', f'', s'', Ss'', hBt4, hR4⟩
                     obtain rfl : mo'' = none := twice_many HRT.out hR4 hmany
                     have cb4 := hBt4.len.1
                     have HF4 : Hid (Below w.heap.size w w4) := HFin.out.trans (hR4.below HB3.out)
                     clear hBt4 hR4))
                go_ret
                exact ⟨rfl, HF4.out⟩
              · have hd : (cnt f 12 : Int) ≤ 8 := by omega
                go_wp2_with (first
                  | (simp only [hlen3])
                  | (simp only [hlen4])
                  | (go_at_call 7
                     refine HRS2.out.mono ?_
                     rintro e w4 ⟨rfl, mo'', f'', s'', Ss'', hBt4, hR4⟩
                     have h2 := twice_few HRT.out hR4 hmany
                     obtain ⟨cb4, hlen4⟩ := hBt4.len
                     rw [h2] at hlen4
                     have HF4 : Hid (Below w.heap.size w w4) := HFin.out.trans (hR4.below HB3.out)
                     clear hBt4 hR4 h2))
                go_ret
                exact ⟨rfl, HF4.out⟩

end Go.Proofs.Ybulkjxi
