/-
  grow at the first chunk's end; grow; push.
-/
import Derived.Test.YbulkjwuGrow
namespace Go.Proofs.Ybulkjwu
open Go.RowKit
set_option linter.unusedSimpArgs false
set_option linter.unusedVariables false

theorem grow_4 {w : World} {r : Nat} {d : Int} {S : List Nat} {T t : Nat} (hS : Stk w r 8 d S T t) :
    Calls Yba.prog 15 #[.pointer (some ⟨r, 2, none⟩)] w fun e w' => ∃ T q, e = .returned (.pointer (some ⟨T, q, none⟩)) ∧ Grows w r 8 d S w' T q := by
  obtain ⟨hr, hlt, h⟩ := hS
  rcases h with ⟨h0, _⟩ | ⟨_, _, rfl, hTS, hTr, hR, cur, hT, hcur⟩ | ⟨F, M, R, u, c, cap, xs, cur, hu1, hu3, hcap, ht1, ht2, hn, _⟩
  · omega
  · obtain ⟨c2, c3, c4, c5, fr⟩ := get_rdr hR
    have hrl := hlt r hr
    refine (grow_next r 2 r 2 8 (some ⟨T, 0, none⟩) w (fun w1 Pb Po T' cap' => ∃ W W1 g cp, (W.heap.size = w.heap.size + 1 ∧ W.os = w.os ∧ W.tape = w.tape ∧ W.output = w.output ∧ (∀ k, k < w.heap.size → k ≠ r → W.heap[k]? = w.heap[k]?) ∧
          W.heap[w.heap.size]? = some (.cells #[.slice none 0 0] 72) ∧ W.heap[r]? = some (rdr (.slice (some ⟨T, 0, none⟩) 8 8) (.pointer (some ⟨w.heap.size, 0, none⟩)) 0 d)) ∧
        App2 W W1 W.heap.size 0 0 g cp 16 [] ∧ Pb = g ∧ Po = 0 ∧ T' = W.heap.size ∧ cap' = 16 ∧
        SameMem w1 ((W1.setCell ⟨w.heap.size, 0, none⟩ (.slice (some ⟨g, 0, none⟩) (0 + 1) cp)).setCell ⟨r, 4, none⟩ (.int .i64 (((0 : Nat) : Int) + 1))))
      (top_o0 r 2 w c4) c2 (by omega) (fun k => (next_C r 2 (some ⟨T, 0, none⟩) 8 (w.drewN k) hrl c2 c3 c4 fr).mono
        fun e w1 he => by
          obtain ⟨W, W1, g, cp, m, ⟨a1, a2, a3, a4, a5, a6, a7, a8, a9⟩, hA, e1, e2⟩ := he
          refine ⟨g, 0, W.heap.size, 16, e1, W, W1, g, cp, ⟨a1, a2, a3, a4, a5, a6, a9.trans (set_more hR _)⟩, hA, rfl, rfl, rfl, rfl, by rw [e2]; exact SameMem.drewN _ m⟩) ?_).mono ?_
    · rintro w1 Pb Po T' cap' ⟨W, W1, g, cp, ⟨a1, a2, a3, a4, a5, a6, a9⟩, hA, rfl, rfl, rfl, rfl, hm⟩
      obtain ⟨p1, p2, p3, p4, p5⟩ := app2_facts (r := r) (M := w.heap.size) hA (by omega) (by omega) (by omega) (by omega)
      exact ⟨by rw [hm.cell]; exact p5.1, by omega, by omega, by rw [hm.frozen]; exact p5.2.1⟩
    · rintro e w' ⟨w1, Pb, Po, T', cap', m, ⟨W, W1, g, cp, ⟨a1, a2, a3, a4, a5, a6, a9⟩, hA, rfl, rfl, rfl, rfl, hm⟩, rfl, rfl⟩
      obtain ⟨p1, p2, p3, p4, p5⟩ := app2_facts (r := r) (M := w.heap.size) hA (by omega) (by omega) (by omega) (by omega)
      refine ⟨W.heap.size, 0, rfl, grows_of ((SameMem.drewN _ m).trans (hm.set _ _)) ?_⟩
      have hs := hA.size
      have hb := hA.block
      have z1 := sc_size W1 ⟨w.heap.size, 0, none⟩ (.slice (some ⟨Pb, 0, none⟩) (0 + 1) cp)
      have z2 := sc_size (W1.setCell ⟨w.heap.size, 0, none⟩ (.slice (some ⟨Pb, 0, none⟩) (0 + 1) cp)) ⟨r, 4, none⟩ (.int .i64 (((0 : Nat) : Int) + 1))
      have hMr : w.heap.size ≠ r := by omega
      have hrM : r ≠ w.heap.size := by omega
      have hMg : w.heap.size ≠ Pb := fun e => p2 e.symm
      have hrg : r ≠ Pb := fun e => p1 e.symm
      have hNr : W.heap.size ≠ r := by omega
      have hNM : W.heap.size ≠ w.heap.size := by omega
      have hNg : W.heap.size ≠ Pb := fun e => p3 e.symm
      have hgl := p5.2.2.1
      have hge : w.heap.size + 1 ≤ Pb := by rcases hA.lies with e | e <;> omega
      have e1 : ((W1.setCell ⟨w.heap.size, 0, none⟩ (.slice (some ⟨Pb, 0, none⟩) (0 + 1) cp)).setCell ⟨r, 4, none⟩ (.int .i64 (((0 : Nat) : Int) + 1))).heap[r]? = some (rdr (.slice (some ⟨T, 0, none⟩) 8 8) (.pointer (some ⟨w.heap.size, 0, none⟩)) (((0 : Nat) : Int) + 1) d) := by
        refine set_used (u := 0) ?_ _
        rw [sc_other _ _ hrM, hb r (by omega) (by omega)]
        exact a9
      have e2 : ((W1.setCell ⟨w.heap.size, 0, none⟩ (.slice (some ⟨Pb, 0, none⟩) (0 + 1) cp)).setCell ⟨r, 4, none⟩ (.int .i64 (((0 : Nat) : Int) + 1))).heap[w.heap.size]? = some (.cells #[.slice (some ⟨Pb, 0, none⟩) (0 + 1) cp] 72) := by
        rw [sc_other _ _ hMr]
        exact sc_same 0 _ ((hb w.heap.size (by omega) (by omega)).trans a6)
      refine ⟨W.heap.size :: Pb :: w.heap.size :: S, 1, by omega, rfl, ⟨by simp [hr], fun k hk => ?_, .inr (.inr ⟨T, w.heap.size, Pb, 0 + 1, cp, 16, [], chunkCells 16, by omega, by omega, by omega, by omega, by omega, by omega, by simp, by simp, by simp, hMr, p1, hNr, p2, hNM, hNg, ?_, ?_, own_set (u := 0 + 1) p4, ?_, chunkCells_size _⟩)⟩,
        ⟨fun k hk hn => ?_, fun k hk => ?_, ?_, hA.os.trans a2, hA.tape.trans a3, hA.output.trans a4⟩⟩
      · rw [sc_size, z2, z1]
        rcases List.mem_cons.1 hk with rfl | hk
        · omega
        · rcases List.mem_cons.1 hk with rfl | hk
          · rw [z2, z1] at hgl; exact hgl
          · rcases List.mem_cons.1 hk with rfl | hk
            · omega
            · have := hlt k hk; omega
      · rw [sc_other _ _ hrg]; exact e1
      · rw [sc_other _ _ hMg]; exact e2
      · rw [sc_other _ _ hNg, sc_other _ _ hNr, sc_other _ _ hNM]; exact hA.row
      · have k1 : k ≠ r := fun e => hn (by rw [e]; exact hr)
        have k2 : k ≠ w.heap.size := by omega
        have k4 : k ≠ Pb := by omega
        rw [sc_other _ _ k4, sc_other _ _ k1, sc_other _ _ k2, hb k (by omega) (by omega)]
        exact a5 k hk k1
      · rcases List.mem_cons.1 hk with rfl | hk
        · exact .inr (by omega)
        · rcases List.mem_cons.1 hk with rfl | hk
          · exact .inr (by omega)
          · rcases List.mem_cons.1 hk with rfl | hk
            · exact .inr (Nat.le_refl _)
            · exact .inl hk
      · rw [sc_size, z2, z1]; omega
  · omega

theorem grow_any {w : World} {r n : Nat} {d : Int} {S : List Nat} {T t : Nat} (hS : Stk w r n d S T t) (h60 : n < 60) :
    Calls Yba.prog 15 #[.pointer (some ⟨r, 2, none⟩)] w fun e w' => ∃ T q, e = .returned (.pointer (some ⟨T, q, none⟩)) ∧ Grows w r n d S w' T q := by
  rcases Nat.eq_zero_or_pos n with rfl | h1
  · exact grow_0 hS
  · rcases Nat.lt_or_ge n 8 with h8 | h8
    · exact grow_1 hS h1 (by omega)
    · rcases Nat.lt_or_ge n 9 with h9 | h9
      · have e : n = 8 := by omega
        subst e
        exact grow_4 hS
      · by_cases hor : n = 24 ∨ n = 56
        · exact grow_3 hS h9 hor
        · exact grow_2 hS h9 (by omega) (by omega) h60

end Go.Proofs.Ybulkjwu
