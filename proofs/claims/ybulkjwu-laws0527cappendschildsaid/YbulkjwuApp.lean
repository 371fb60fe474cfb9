/-
  append of one element onto a row that the call itself has made, with the word on where the new row lies.
-/
import Derived.Test.YbulkjwuBase
namespace Go.Proofs.Ybulkjwu
open Go.RowKit
set_option linter.unusedSimpArgs false
set_option linter.unusedVariables false

/-- The row of v is the old one, or a new one. -/
def SameOrNew (w : World) (v v' : Value) : Prop := v'.ownBlock = v.ownBlock ∨ ∃ g, v'.ownBlock = some g ∧ w.heap.size ≤ g

theorem append1 (w : World) (t ty e : TypeId) (i : TypeInfo) (z : Value) (bytes : Nat) (ht : Yba.prog.underlying t = some (.slice e)) (hi : Yba.prog.info? e = some i) (hz : i.zero = some z)
    (hsize : i.size = 1) (hby : i.bytes = bytes) (hzs : z.cells.size = 1) (hbb : bytes ≤ 100)
    (v : Value) (n : Nat) (xs : List Value) (hown : w.ownsRow 0 e 1 v n xs) (a : Addr) (x : Value) (c : Nat) (hx : w.cell? a = some x) (hsp : a.spot = none) (h1 : x.oneCell' = true) (hn : n ≤ 10000) :
    ∃ v' w', (Builtin.append_ #[t, t] ty #[v, .slice (some a) 1 c]).run Yba.prog w = .ok v' w' ∧ w'.ownsRow 0 e 1 v' (n + 1) (xs ++ [x]) ∧ w.grownBy w' v.ownBlock ∧ SameOrNew w v v' ∧
      ∃ g cap, v' = .slice (some ⟨g, 0, none⟩) (n + 1) cap ∧ n + 1 ≤ cap := by
  have hnews : ∀ j u, [x][j]? = some u → w.cell? (a.add j) = some u := by
    intro j u hu
    match j, hu with
    | 0, hu =>
      simp at hu
      subst hu
      have : a.add 0 = a := by unfold Addr.add; split <;> simp_all
      rw [this]
      exact hx
  have h1' : ∀ u ∈ [x], u.oneCell' = true := by intro u hu; simp at hu; subst hu; exact h1
  obtain ⟨v', w', hrun, hown', hgr, hnil⟩ := run_append_own (P := Yba.prog) w 0 t ty e i z 1 bytes ht hi hz hsize hby hzs (by decide) v n xs hown a 1 c [x] rfl hnews h1' (by unfold maxLen; omega)
    (by have := Nat.mul_le_mul (show n + 1 ≤ 10001 by omega) hbb; omega) (Nat.zero_le _)
  refine ⟨v', w', hrun, hown', hgr, ?_, ?_⟩
  · rcases hown.2 with ⟨rfl, rfl⟩ | ⟨g, cap, cur, rfl, hb, hg, hnc, hcm, hcs, htake⟩
    · -- onto nil: a new row
      have hx0 : xs = [] := List.eq_nil_of_length_eq_zero (by simpa using hown.1)
      subst hx0
      obtain ⟨v2, w2, hrun2, hown2, _, _⟩ := run_append_own (P := Yba.prog) w w.heap.size t ty e i z 1 bytes ht hi hz hsize hby hzs (by decide) (.slice none 0 0) 0 [] (World.ownsRow_nil w _ e 1) a 1 c [x] rfl hnews h1' (by unfold maxLen; omega)
        (by omega) (Nat.le_refl _)
      rw [hrun] at hrun2
      injection hrun2 with e1 e2
      subst e1
      rcases hown2.2 with ⟨rfl, h0⟩ | ⟨g, cap, cur, rfl, hb, _⟩
      · omega
      · exact .inr ⟨g, rfl, hb⟩
    · by_cases hroom : n + 1 ≤ cap
      · have hr := run_append_room (P := Yba.prog) w t ty e i ht hi g n cap cur hg a 1 c [x] (by simp [hsize]) hnews h1' hroom (by rw [hsize]; simp; omega)
        rw [hrun] at hr
        injection hr with e1 e2
        subst e1
        exact .inl rfl
      · have hr := run_append_grow (P := Yba.prog) w t ty e i z ht hi hz ⟨g, 0, none⟩ n cap xs (by rw [hsize]; exact hown.1) (hown.cells (g := g) rfl) a 1 c [x] (by simp [hsize]) hnews (by omega) (by omega)
          (growslice_fits (by omega) (by rw [hby]; have := Nat.mul_le_mul (show n + 1 ≤ 10001 by omega) hbb; omega))
        rw [hrun] at hr
        injection hr with e1 e2
        subst e1
        exact .inr ⟨_, rfl, Nat.le_refl _⟩
  · rcases hown'.2 with ⟨rfl, h0⟩ | ⟨g, cap, cur, rfl, hb, hg, hnc, _⟩
    · omega
    · exact ⟨g, cap, rfl, hnc⟩

end Go.Proofs.Ybulkjwu
