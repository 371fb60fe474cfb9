/-
  ByTable[int].Reset.
-/
import Derived.Test.YbulkjxiRs
namespace Go.Proofs.Ybulkjxi
open Go.RowKit Go.Maps
set_option linter.unusedSimpArgs false
set_option linter.unusedVariables false

/-- What Reset leaves. -/
structure ResetTo (w w' : World) (b : Nat) (mo : Option Nat) (f : Nat → Option Nat) (s : Nat → Nat) (Ss : Nat → List Nat) (mo' : Option Nat) (f' : Nat → Option Nat) (s' : Nat → Nat) (Ss' : Nat → List Nat) : Prop where
  many : 8 < cnt f 12 → mo' = none ∧ ∀ i, i < 12 → f' i = none
  few : ¬ 8 < cnt f 12 → mo' = mo ∧ ∀ i, i < 12 → f' i = (if s i ≤ 8 then f i else none) ∧ ((f' i).isSome = true → s' i = 0)
  mine : ∀ i, i < 12 → (f' i).isSome = true → ∀ k ∈ Ss' i, k ∈ Ss i ∨ w.heap.size ≤ k
  block : ∀ k, k < w.heap.size → k ≠ b → (∀ M, mo = some M → k ≠ M) → (∀ i, i < 12 → (f i).isSome = true → k ∉ Ss i) → w'.heap[k]? = w.heap[k]?
  size : w.heap.size ≤ w'.heap.size
  os : w'.os = w.os
  tape : w'.tape = w.tape
  output : w'.output = w.output

theorem cnt_none {f : Nat → Option Nat} : ∀ n, (∀ i, i < n → f i = none) → cnt f n = 0
  | 0, _ => rfl
  | n + 1, h => by rw [cnt_succ, cnt_none n (fun i hi => h i (by omega)), h n (by omega)]; rfl

set_option maxHeartbeats 400000 in
theorem reset_nil {w : World} {B b : Nat} {f : Nat → Option Nat} {s : Nat → Nat} {Ss : Nat → List Nat} (hBb : B ≤ b) (hc : w.heap[b]? = some (.cells #[.map none] 25)) (hf : ∀ i, i < 12 → f i = none) :
    Calls Yba.prog 7 #[.pointer (some ⟨b, 0, none⟩)] w fun e w' => e = .returned (.tuple #[]) ∧ ∃ mo' f' s' Ss', Bt w' B b mo' f' s' Ss' ∧ ResetTo w w' b none f s Ss mo' f' s' Ss' := by
  have hbl := (Array.getElem?_eq_some_iff.1 hc).1
  have c0 : w.cell? ⟨b, 0, none⟩ = some (.map none) := cell_of_row _ _ 0 _ 25 (0, 0) hc
  have hl : ∀ ty, (Builtin.len_ #[23] ty #[.map none]).run Yba.prog w = .ok (.int .i64 0) w := fun ty => Maps.len_nil Yba.underlying23 ty
  have hr := run_range_nilMap (P := Yba.prog) w 23 9 29 Yba.underlying23
  have hn := fun ty => run_next_nilMap (P := Yba.prog) w ty 0 0 #[]
  have HF : Hid (∃ mo' f' s' Ss', Bt (w.alloc (.mapIter none 0 #[] 0)) B b mo' f' s' Ss' ∧ ResetTo w (w.alloc (.mapIter none 0 #[] 0)) b none f s Ss mo' f' s' Ss') := by
    have h0 : cnt f 12 = 0 := cnt_none 12 hf
    exact ⟨none, f, s, Ss, .inl ⟨rfl, hBb, (Below.heap_alloc _ _ _ hbl).trans hc, hf⟩, ⟨fun h => (by omega), fun _ => ⟨rfl, fun i hi => ⟨by rw [hf i hi]; simp, fun h => (by rw [hf i hi] at h; cases h)⟩⟩, fun i hi h => (by rw [hf i hi] at h; cases h), fun k hk _ _ _ => Below.heap_alloc _ _ _ hk, by simp, rfl, rfl, rfl⟩⟩
  clear hc hf
  go_enter Yba.func7, Yba.ntmps7
  go_wp2
  refine wp_loop_rounds 1 ?_
  rw [rounds_succ]
  go_wp2
  go_end0
  exact ⟨rfl, HF.out⟩

set_option maxHeartbeats 400000 in
theorem reset_many {w : World} {B b M : Nat} {D : DataW Unit} {f : Nat → Option Nat} {s : Nat → Nat} {Ss : Nat → List Nat} (h : BtAt w B b M D f s Ss) (hm : 8 < cnt f 12) :
    Calls Yba.prog 7 #[.pointer (some ⟨b, 0, none⟩)] w fun e w' => e = .returned (.tuple #[]) ∧ ∃ mo' f' s' Ss', Bt w' B b mo' f' s' Ss' ∧ ResetTo w w' b (some M) f s Ss mo' f' s' Ss' := by
  have hsz := h.tm.size h.map
  have hown := h.map
  have c0 : w.cell? ⟨b, 0, none⟩ = some (.map (some M)) := cell_of_row _ _ 0 _ 25 (0, 0) h.cell
  have cf : w.frozen? ⟨b, 0, none⟩ = false := frozen_of_row _ _ 0 _ 25 h.cell
  have HF : Hid (∃ mo' f' s' Ss', Bt (w.setCell ⟨b, 0, none⟩ (.map none)) B b mo' f' s' Ss' ∧ ResetTo w (w.setCell ⟨b, 0, none⟩ (.map none)) b (some M) f s Ss mo' f' s' Ss') :=
    ⟨none, fun _ => none, s, Ss, .inl ⟨rfl, h.hb, sc_same 0 _ h.cell, fun _ _ => rfl⟩, ⟨fun _ => ⟨rfl, fun _ _ => rfl⟩, fun hx => absurd hm hx, fun i hi hx => (by cases hx), fun k hk hkb _ _ => sc_other _ _ hkb, by rw [sc_size]; exact Nat.le_refl _, rfl, rfl, rfl⟩⟩
  have hlt : (8 : Int) < (Maps.size D : Int) := by omega
  clear h
  go_enter Yba.func7, Yba.ntmps7
  go_wp2_with (at_len; refine wpList_len_own _ rfl _ 23 rfl 9 29 Yba.underlying23 ptrElem M _ D rfl hown ?_)
  refine bodyPost_ret (results_none rfl _ _ _) rfl ?_
  exact ⟨rfl, HF.out⟩

theorem Rs.start {w w0 : World} {B b M : Nat} {D : DataW Unit} {f : Nat → Option Nat} {s : Nat → Nat} {Ss : Nat → List Nat} (h : BtAt w B b M D f s Ss) (hg : w.grownBy w0 none) (hs : w0.heap.size = w.heap.size + 1) : Rs w w0 B b M w.heap.size f s Ss D f s Ss (Maps.has D) := by
  have hbl := (Array.getElem?_eq_some_iff.1 h.cell).1
  have hml := h.map.lt
  have hb : ∀ k, k < w.heap.size → w0.heap[k]? = w.heap[k]? := fun k hk => hg.block k hk (by simp)
  have hlt : ∀ j, j < 12 → (f j).isSome = true → ∀ k ∈ Ss j, k < w.heap.size := fun j hj hq k hk => by
    obtain ⟨q, hq⟩ := Option.isSome_iff_exists.1 hq
    obtain ⟨⟨m, rv, n, T, D', t⟩, _⟩ := h.tab j q hj hq
    exact t.lt k hk
  have rS : ∀ i, i < 12 → (f i).isSome = true → w.heap.size ∉ Ss i := fun i hi hs hm => by have := hlt i hi hs _ hm; omega
  refine ⟨h.turn (fun k hk _ => hb k hk) hg.size (by omega) (by omega) rS, fun i hi => ?_, fun i hi hx => ?_, by omega, by omega, rS, Nat.le_refl _, by omega, fun i hi _ k hk => .inl hk, fun k hk _ _ _ => hb k hk, hg.size, hg.os, hg.tape, hg.output⟩
  · rw [h.tm.has i hi]
    cases hf : f i <;> simp
  · rw [h.tm.has i hi, if_pos hx]

theorem Rs.done {w wr : World} {B b M r : Nat} {f : Nat → Option Nat} {s : Nat → Nat} {Ss : Nat → List Nat} {D' : DataW Unit} {f' : Nat → Option Nat} {s' : Nat → Nat} {Ss' : Nat → List Nat} {left : Lit → Bool} (h : Rs w wr B b M r f s Ss D' f' s' Ss' left) (hl : ∀ kl, left kl = false) (hc : ¬ 8 < cnt f 12) :
    ∃ mo' f' s' Ss', Bt wr B b mo' f' s' Ss' ∧ ResetTo w wr b (some M) f s Ss mo' f' s' Ss' := by
  refine ⟨some M, f', s', Ss', .inr ⟨M, D', rfl, h.bt⟩, ⟨fun hx => absurd hx hc, fun _ => ⟨rfl, fun i hi => ⟨?_, fun hx => ?_⟩⟩, h.mine, fun k hk h1 h2 h3 => h.block k hk h1 (h2 M rfl) h3, h.size, h.os, h.tape, h.output⟩⟩
  · have := h.now i hi
    rw [hl] at this
    simpa using this
  · have := h.num i hi hx
    rw [hl] at this
    simpa using this

theorem key_inv {key : Value} {kl : Lit} (h : keyOf Yba.prog 9 key = some kl) : ∃ x : ByteArray, key = .string x := by
  cases key <;> simp [keyOf, Yba.underlying9, mapKey] at h
  exact ⟨_, rfl⟩

theorem name_inv {x : ByteArray} {i : Nat} (h : keyOf Yba.prog 9 (.string x) = some (nl i)) : x = nameOf i := by
  simp [keyOf, Yba.underlying9, mapKey, nl] at h
  obtain ⟨a⟩ := x
  cases h' : nameOf i with
  | mk d =>
    rw [h'] at h
    simp at h
    have := h.2
    exact congrArg ByteArray.mk this

set_option maxHeartbeats 1000000 in
theorem reset_few {w : World} {B b M : Nat} {D : DataW Unit} {f : Nat → Option Nat} {s : Nat → Nat} {Ss : Nat → List Nat} (h : BtAt w B b M D f s Ss) (hm : ¬ 8 < cnt f 12) (hB : B ≤ w.heap.size) :
    Calls Yba.prog 7 #[.pointer (some ⟨b, 0, none⟩)] w fun e w' => e = .returned (.tuple #[]) ∧ ∃ mo' f' s' Ss', Bt w' B b mo' f' s' Ss' ∧ ResetTo w w' b (some M) f s Ss mo' f' s' Ss' := by
  have hsz := h.tm.size h.map
  have hown := h.map
  have c0 : w.cell? ⟨b, 0, none⟩ = some (.map (some M)) := cell_of_row _ _ 0 _ 25 (0, 0) h.cell
  have hlt : ¬ ((8 : Int) < (Maps.size D : Int)) := by omega
  have H : Hid (BtAt w B b M D f s Ss) := h
  clear h hsz
  go_enter Yba.func7, Yba.ntmps7
  go_wp2_with (first
    | (at_len; refine wpList_len_own _ rfl _ 23 rfl 9 29 Yba.underlying23 ptrElem M _ D rfl hown ?_)
    | (at_range; refine wpList_range_own _ rfl _ 23 rfl 9 29 law9 Yba.underlying23 ptrElem M _ D rfl hown ?_; intro w0 hrg0 hg0 hs0))
  try go_frame
  go_loopw [2] (fun _ wr => ∃ (D' : DataW Unit) (f' : Nat → Option Nat) (s' : Nat → Nat) (Ss' : Nat → List Nat) (left : Lit → Bool) (cn : Nat), Rs w wr B b M w.heap.size f s Ss D' f' s' Ss' left ∧ wr.ranges Yba.prog 9 ptrElem M w.heap.size (Maps.size D) D' left cn)
    (fun _ wr => wr.rangeLeft M w.heap.size)
  case atStart => exact ⟨D, f, s, Ss, _, _, Rs.start H.out hg0 hs0, hrg0⟩
  case round =>
    obtain ⟨D', f', s', Ss', left, cn, hR, hrg⟩ := hrel
    go_wp2_with (at_next; refine wpList_next_ranges _ rfl _ rfl 9 law9 ptrElem Value.string ptrVal (fun key kl hk => key_inv hk) (fun v y hv => by obtain ⟨o, ho, _⟩ := ptrElem_inv hv; exact ⟨o, ho⟩) M w.heap.size (Maps.size D) D' left cn rfl hrg ?_ ?_)
    · intro _ hl0
      go_wp2
      go_end0
      exact ⟨rfl, hR.done hl0 hm⟩
    · intro x o kl y yp w1 cn1 hkey hlk hv hat hrg1 hcn hg1 hs1 hen
      have hhas : Maps.has D' kl = true := Maps.has_true_of_atKey hat
      obtain ⟨i, hi, rfl⟩ := hR.bt.tm.only kl hhas
      obtain rfl : x = nameOf i := name_inv hkey
      have hy : y = ptrDat o := by rw [ptrElem_mk] at hv; injection hv with hv; exact (congrArg Prod.fst hv).symm
      have ho : o = f' i := ptrDat_inj (by have := hat (ptrDat none); rw [hy, hR.bt.tm.at_ i hi] at this; exact this.symm)
      have hfs : (f' i).isSome = true := by rw [← hR.bt.tm.has i hi]; exact hhas
      obtain ⟨p, hp⟩ := Option.isSome_iff_exists.1 hfs
      have hop : o = some p := ho.trans hp
      subst hop
      unfold ptrVal at hen
      have hnum : s' i = s i := by rw [hR.num i hi hfs, if_pos hlk]
      have hf0 : (f i).isSome = true := by
        have := hR.now i hi
        rw [if_pos (.inl hlk)] at this
        rw [← this]
        exact hfs
      have R1 : Hid (Rs w w1 B b M w.heap.size f s Ss D' f' s' Ss' left) := hR.step hg1
      have T1 : Hid (Tab w1 p (s i) (Ss' i)) := by have := (R1.out.bt.tab i p hi hp).1; rwa [hnum] at this
      have HM : Hid (M ∉ Ss' i) := (R1.out.bt.tab i p hi hp).2.2.1
      have c1 : w1.cell? ⟨b, 0, none⟩ = some (.map (some M)) := cell_of_row _ _ 0 _ 25 (0, 0) R1.out.bt.cell
      have hkey' := key_name i
      have hB1 : B ≤ w1.heap.size := Nat.le_trans hB R1.out.size
      have HP : Hid (f' i = some p) := hp
      have HF0 : Hid ((f i).isSome = true) := hf0
      have hs16 : s i ≤ 16 := by obtain ⟨m, rv, n, T, D2, t⟩ := T1.out; exact t.small
      obtain ⟨si, hsi⟩ : ∃ si, si = s i := ⟨_, rfl⟩
      have HSI : Hid (si = s i) := hsi
      have T2 : Hid (Calls Yba.prog 6 #[.pointer (some ⟨p, 0, none⟩)] w1 fun e w' => e = .returned (.int .i64 si) ∧ w1 = w') := by rw [hsi]; exact len_some T1.out
      obtain ⟨nm, hnm⟩ : ∃ nm, nm = nameOf i := ⟨_, rfl⟩
      rw [← hnm] at hkey' hen ⊢
      rw [← hsi] at hs16
      unfold ptrVal
      clear hR hhas hv hat hy ho hfs hp hnum hf0 hkey hlk hnm hsi hg1
      by_cases h8 : si ≤ 8
      · have HC : Hid (Calls Yba.prog 10 #[.pointer (some ⟨p, 0, none⟩)] w1 fun e w' => e = .returned (.tuple #[]) ∧ ∃ S', Tab w' p 0 S' ∧ Fr w1 w' (Ss' i) S') := iclear_any T1.out
        go_wp2_with (first
          | (go_at_call 6; refine T2.out.mono ?_; rintro e w' ⟨rfl, rfl⟩)
          | (go_at_call 10; refine HC.out.mono ?_; rintro e w2 ⟨rfl, S2, t2, fr2⟩))
        have hM1 := R1.out.bt.map.lt
        have hfin : ∃ (D' : DataW Unit) (f' : Nat → Option Nat) (s' : Nat → Nat) (Ss' : Nat → List Nat) (left : Lit → Bool) (cn : Nat), Rs w w2 B b M w.heap.size f s Ss D' f' s' Ss' left ∧ w2.ranges Yba.prog 9 ptrElem M w.heap.size (Maps.size D) D' left cn :=
          ⟨D', f', _, _, _, cn1, R1.out.clear hi (by rw [← HSI.out]; exact h8) HP.out HF0.out t2 fr2 hB1, ranges_heap hrg1 (fr2.block M hM1 HM.out) (fr2.block _ R1.out.rlt (R1.out.rS i hi (by rw [HP.out]; rfl)))⟩
        have hms : w2.rangeLeft M w.heap.size < wr.rangeLeft M w.heap.size := by
          rw [(ranges_heap hrg1 (fr2.block M hM1 HM.out) (fr2.block _ R1.out.rlt (R1.out.rS i hi (by rw [HP.out]; rfl)))).left_eq, hrg.left_eq]
          exact hcn
        first
          | (go_roundw
             case rel => exact hfin
             case measure => exact hms)
          | exact ⟨hfin, hms⟩
      · go_wp2_with (first
          | (go_at_call 6; refine T2.out.mono ?_; rintro e w' ⟨rfl, rfl⟩)
          | (at_delete; refine wpList_delete_ranges _ rfl _ _ 23 9 rfl 29 law9 Yba.underlying23 ptrElem M w.heap.size (Maps.size D) D' _ _ rfl hrg1 _ _ rfl hkey' ?_; intro w2 cn2 hrg2 hle hturn; go_frame))
        rw [strike_twice] at hrg2
        have hfin : ∃ (D' : DataW Unit) (f' : Nat → Option Nat) (s' : Nat → Nat) (Ss' : Nat → List Nat) (left : Lit → Bool) (cn : Nat), Rs w w2 B b M w.heap.size f s Ss D' f' s' Ss' left ∧ w2.ranges Yba.prog 9 ptrElem M w.heap.size (Maps.size D) D' left cn :=
          ⟨_, _, s', Ss', _, cn2, R1.out.del hi (by rw [← HSI.out]; exact h8) hrg2.owns hturn.grown, hrg2⟩
        have hms : w2.rangeLeft M w.heap.size < wr.rangeLeft M w.heap.size := by
          rw [hrg2.left_eq, hrg.left_eq]
          omega
        go_roundw
        case rel => exact hfin
        case measure => exact hms

theorem reset_any {w : World} {B b : Nat} {mo : Option Nat} {f : Nat → Option Nat} {s : Nat → Nat} {Ss : Nat → List Nat} (h : Bt w B b mo f s Ss) (hB : B ≤ w.heap.size) :
    Calls Yba.prog 7 #[.pointer (some ⟨b, 0, none⟩)] w fun e w' => e = .returned (.tuple #[]) ∧ ∃ mo' f' s' Ss', Bt w' B b mo' f' s' Ss' ∧ ResetTo w w' b mo f s Ss mo' f' s' Ss' := by
  rcases h with ⟨rfl, hBb, hc, hf⟩ | ⟨M, D, rfl, h⟩
  · exact reset_nil hBb hc hf
  · by_cases hm : 8 < cnt f 12
    · exact reset_many h hm
    · exact reset_few h hm hB

end Go.Proofs.Ybulkjxi
