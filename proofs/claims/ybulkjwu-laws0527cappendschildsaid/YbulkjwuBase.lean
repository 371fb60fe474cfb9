/-
  The base of LawS0527AClose: rows of bools; the callees that only compute.
-/
import Derived.Test.YbulkjwuRows
import Derived.WalkKit
import Derived.WalkSpells
import Derived.WalkLawsBesides
import Derived.Deep.QuietTactic
import Derived.BigQuiet
namespace Go.Proofs.Ybulkjwu
open Go.RowKit
set_option linter.unusedSimpArgs false
set_option linter.unusedVariables false

/-- A slice of bools (of length n) that reads as l: nothing is asked of it where it is empty. -/
def Bools (w : World) (a : Option Addr) (l : List Bool) : Prop :=
  l = [] ∨ ∃ g off, a = some ⟨g, off, none⟩ ∧ ∀ j, j < l.length → w.cell? ⟨g, off + j, none⟩ = some (.bool (l.getD j false))

theorem Bools.of_block {w w' : World} {a : Option Addr} {l : List Bool} (h : Bools w a l) (hb : ∀ g off, a = some ⟨g, off, none⟩ → w'.heap[g]? = w.heap[g]?) : Bools w' a l := by
  rcases h with h | ⟨g, off, ha, hc⟩
  · exact .inl h
  · exact .inr ⟨g, off, ha, fun j hj => (World.cell?_of_block (a := ⟨g, off + j, none⟩) (hb g off ha)).trans (hc j hj)⟩

theorem Bools.take {w : World} {a : Option Addr} {l : List Bool} (h : Bools w a l) (n : Nat) : Bools w a (l.take n) := by
  rcases h with h | ⟨g, off, ha, hc⟩
  · exact .inl (by rw [h]; simp)
  · refine .inr ⟨g, off, ha, fun j hj => ?_⟩
    simp at hj
    rw [hc j (by omega)]
    simp [List.getD, List.getElem?_take, show j < n by omega]

theorem state_any (k : Int) (w : World) (h0 : 0 ≤ k) (h1 : k ≤ 255) :
    Calls Yba.prog 5 #[.int .u8 k] w fun e w' => (∃ s : ByteArray, e = .returned (.string s)) ∧ w = w' := by
  go_enter Yba.func5, Yba.ntmps5
  go_wp2
  all_goals go_ret
  all_goals exact ⟨⟨_, rfl⟩, rfl⟩

theorem kind_any (k : Int) (w : World) (h0 : 0 ≤ k) (h1 : k ≤ 255) :
    Calls Yba.prog 6 #[.int .u8 k] w fun e w' => (∃ s : ByteArray, e = .returned (.string s)) ∧ w = w' := by
  go_enter Yba.func6, Yba.ntmps6
  go_wp2
  all_goals go_ret
  all_goals exact ⟨⟨_, rfl⟩, rfl⟩

set_option maxHeartbeats 1000000 in
theorem eq_some (g1 o1 g2 o2 c1 c2 : Nat) (l : List Bool) (w : World) (hl : l.length ≤ 2000)
    (h1 : ∀ j, j < l.length → w.cell? ⟨g1, o1 + j, none⟩ = some (.bool (l.getD j false))) (h2 : ∀ j, j < l.length → w.cell? ⟨g2, o2 + j, none⟩ = some (.bool (l.getD j false))) :
    Calls Yba.prog 8 #[.slice (some ⟨g1, o1, none⟩) l.length c1, .slice (some ⟨g2, o2, none⟩) l.length c2] w fun e w' => e = .returned (.bool true) ∧ ∃ n, w' = w.drewN n := by
  go_enter Yba.func8, Yba.ntmps8
  go_wp2
  go_loopw [5] (fun i wr => ∃ k : Nat, k ≤ l.length ∧ i = .int .i64 k ∧ ∃ n, wr = w.drewN n) (fun i _ => l.length - (intOf i).toNat)
  case atStart => exact ⟨0, Nat.zero_le _, rfl, 0, rfl⟩
  case round =>
    obtain ⟨k, hk, rfl, n, rfl⟩ := hrel
    by_cases hlt : k < l.length
    · have q1 := h1 k hlt
      have q2 := h2 k hlt
      clear h1 h2
      go_wp2
      go_quiet (fail)
      go_wp2
      exact ⟨⟨k + 1, by omega, by go_num, _, rfl⟩, by simp [intOf]; omega⟩
    · clear h1 h2
      go_wp2
      go_ret
      exact ⟨rfl, n, rfl⟩

theorem eq_none (a1 a2 : Option Addr) (c1 c2 : Nat) (w : World) :
    Calls Yba.prog 8 #[.slice a1 0 c1, .slice a2 0 c2] w fun e w' => e = .returned (.bool true) ∧ ∃ n, w' = w.drewN n := by
  go_enter Yba.func8, Yba.ntmps8
  go_wp2
  refine wp_loop_rounds 1 ?_
  rw [rounds_succ]
  go_wp2
  go_ret
  exact ⟨rfl, 0, rfl⟩

/-- zzs0527aeq of two slices that read as one list. -/
theorem eq_any (a1 a2 : Option Addr) (c1 c2 n : Nat) (l : List Bool) (w : World) (hl : l.length ≤ 2000) (hn : l.length = n) (h1 : Bools w a1 l) (h2 : Bools w a2 l) :
    Calls Yba.prog 8 #[.slice a1 n c1, .slice a2 n c2] w fun e w' => e = .returned (.bool true) ∧ ∃ n, w' = w.drewN n := by
  subst hn
  rcases h1 with rfl | ⟨g1, o1, rfl, h1⟩
  · exact eq_none a1 a2 c1 c2 w
  · rcases h2 with rfl | ⟨g2, o2, rfl, h2⟩
    · exact eq_none _ a2 c1 c2 w
    · exact eq_some g1 o1 g2 o2 c1 c2 l w hl h1 h2

theorem info4 : (Yba.prog.info? 4).map (fun i => (i.zero, i.size, i.bytes)) = some (some (.bool false), 1, 1) := by kernel_rfl

def boolsV (l : List Bool) : List Value := l.map Value.bool

/-- 'append([]bool(nil), a...)'. -/
theorem append_copy (w : World) (a : Option Addr) (cap : Nat) (l : List Bool) (hl : l.length ≤ 2000) (h : Bools w a l) (ty : TypeId) :
    ∃ a' c' w', (Builtin.append_ #[23, 23] ty #[.slice none 0 0, .slice a l.length cap]).run Yba.prog w = .ok (.slice a' l.length c') w' ∧
      (∀ g o, a' = some ⟨g, o, none⟩ → w.heap.size ≤ g ∧ g < w'.heap.size) ∧ Bools w' a' l ∧ l.length ≤ c' ∧ (∀ x, a' = some x → x.spot = none) ∧ Below w.heap.size w w' := by
  obtain ⟨i0, hi, hz0, hz1, hz2⟩ := info_parts info4
  rcases h with rfl | ⟨g, off, rfl, hc⟩
  · refine ⟨none, 0, w, ?_, fun g o h => (by cases h), .inl rfl, Nat.le_refl _, fun x h => (by cases h), Below.refl _ _⟩
    cases a <;> simp [Builtin.append_, run_underlying Yba.underlying23, sizeOf, typeInfo, hi, hz1, Builtin.lenOf, Builtin.firstCells, loadCells, loadCellsFrom]
  · have hsrc : ∀ j u, (boolsV l)[j]? = some u → w.cell? ((⟨g, off, none⟩ : Addr).add j) = some u := by
      intro j u hu
      have hjl : j < l.length := by
        rcases Nat.lt_or_ge j l.length with h | h
        · exact h
        · simp [boolsV, List.getElem?_eq_none h] at hu
      have hadd : (⟨g, off, none⟩ : Addr).add j = ⟨g, off + j, none⟩ := by unfold Addr.add; split <;> simp_all
      rw [hadd, hc j hjl, ← hu]
      simp [boolsV, List.getD, List.getElem?_eq_getElem hjl]
    obtain ⟨v', w1, hrun, hown, hgr, hnil⟩ := run_append_own (P := Yba.prog) w w.heap.size 23 ty 4 i0 (.bool false) 1 1 Yba.underlying23 hi hz0 hz1 hz2 rfl (by decide) (.slice none 0 0) 0 [] (World.ownsRow_nil w w.heap.size 4 1)
      ⟨g, off, none⟩ l.length cap (boolsV l) (by simp [boolsV]) hsrc (by intro u hu; simp only [boolsV, List.mem_map] at hu; obtain ⟨b, _, rfl⟩ := hu; rfl) (by unfold maxLen; omega) (by omega) (Nat.le_refl _)
    simp only [Nat.zero_add, List.nil_append] at hown
    have hB : Below w.heap.size w w1 := (Below.refl w.heap.size w).grown hgr (Nat.le_refl _) (fun k hk => by simp [Value.ownBlock] at hk)
    rcases hown.2 with ⟨rfl, h2⟩ | ⟨q, c, cur, rfl, hq, hb, hn, hcm, hcs, htake⟩
    · have hl0 : l = [] := List.eq_nil_of_length_eq_zero h2
      exact ⟨none, 0, w1, by rw [hrun, h2], fun g o h => (by cases h), .inl hl0, by omega, fun x h => (by cases h), hB⟩
    · refine ⟨_, c, w1, hrun, fun g o h => ?_, .inr ⟨q, 0, rfl, fun j hj => ?_⟩, hn, fun x h => ?_, hB⟩
      · cases h
        exact ⟨hq, (Array.getElem?_eq_some_iff.1 hb).1⟩
      · have e := hown.cells (g := q) rfl j (.bool (l.getD j false)) (by simp [boolsV, List.getD, List.getElem?_eq_getElem hj])
        have hadd : (⟨q, 0, none⟩ : Addr).add j = ⟨q, 0 + j, none⟩ := by unfold Addr.add; split <;> simp_all
        rwa [hadd] at e
      · cases h
        rfl

theorem append_copy_n (w : World) (a : Option Addr) (cap n : Nat) (l : List Bool) (hn : l.length = n) (hl : n ≤ 2000) (h : Bools w a l) (ty : TypeId) :
    ∃ a' c' w', (Builtin.append_ #[23, 23] ty #[.slice none 0 0, .slice a n cap]).run Yba.prog w = .ok (.slice a' n c') w' ∧
      (∀ g o, a' = some ⟨g, o, none⟩ → w.heap.size ≤ g ∧ g < w'.heap.size) ∧ Bools w' a' l ∧ n ≤ c' ∧ (∀ x, a' = some x → x.spot = none) ∧ Below w.heap.size w w' := by
  subst hn
  exact append_copy w a cap l hl h ty

/-- An append whose run is at hand, at the operation. -/
theorem wpList_append_run {P : Program} {ops : Array Oper} {rest : List Oper} {o : Oper} {a : Act} {w : World} {Q : Exit → Act → World → Prop} (hgd : o.guard = none) (s x : Operand) (t u : TypeId)
    (ho : o.op = .call { callee := .builtin .append, args := #[s, x], argTypes := #[t, u] }) (vs vx : Value) (hs : a.eval s = vs) (hx : a.eval x = vx) (v' : Value) (w' : World)
    (hr : (Builtin.append_ #[t, u] o.type #[vs, vx]).run P w = .ok v' w') (h : wpList P ops Q rest (a.put o.dst v') w') : wpList P ops Q (o :: rest) a w := by
  refine wpList_plain hgd fun K' hK' => ?_
  unfold Oper.wp
  simp [execOp, ho, resolve, invoke, builtin, hs, hx, hr, Result.andThen]
  exact hK' _ _ h

end Go.Proofs.Ybulkjwu
