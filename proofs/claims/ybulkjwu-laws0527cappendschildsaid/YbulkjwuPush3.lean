/-
  (*jsonReader).push; zzs0527ctop.
-/
import Derived.Test.YbulkjwuPush2
namespace Go.Proofs.Ybulkjwu
open Go.RowKit
set_option linter.unusedSimpArgs false
set_option linter.unusedVariables false

/-- The reader's cells, whatever the stack holds. -/
theorem Stk.rdr {w : World} {r n : Nat} {d : Int} {S : List Nat} {T t : Nat} (h : Stk w r n d S T t) : ∃ f m u, w.heap[r]? = some (rdr f m u d) := by
  obtain ⟨hr, hlt, h⟩ := h
  rcases h with ⟨h0, hR⟩ | ⟨h1, h2, h3, hTS, hTr, hR, cur, hT, hc⟩ | ⟨F, M, R, u, c, cap, xs, cur, h1, h2, h3, h4, h5, h6, hMS, hRS, hTS, h10, h11, h12, h13, h14, h15, h16, h17, h18, h19, h20⟩
  · exact ⟨_, _, _, hR⟩
  · exact ⟨_, _, _, hR⟩
  · exact ⟨_, _, _, h16⟩

theorem Stk.depth {w : World} {r n : Nat} {d : Int} {S : List Nat} {T t : Nat} (h : Stk w r n d S T t) (d' : Int) : Stk (w.setCell ⟨r, 5, none⟩ (.int .i64 d')) r n d' S T t := by
  obtain ⟨hr, hlt, h⟩ := h
  refine ⟨hr, fun k hk => by rw [sc_size]; exact hlt k hk, ?_⟩
  rcases h with ⟨h0, hR⟩ | ⟨h1, h2, h3, hTS, hTr, hR, cur, hT, hc⟩ | ⟨F, M, R, u, c, cap, xs, cur, h1, h2, h3, h4, h5, h6, hMS, hRS, hTS, h10, h11, h12, h13, h14, h15, h16, h17, h18, h19, h20⟩
  · exact .inl ⟨h0, set_depth hR d'⟩
  · exact .inr (.inl ⟨h1, h2, h3, hTS, hTr, set_depth hR d', cur, by rw [sc_other _ _ hTr]; exact hT, hc⟩)
  · exact .inr (.inr ⟨F, M, R, u, c, cap, xs, cur, h1, h2, h3, h4, h5, h6, hMS, hRS, hTS, h10, h11, h12, h13, h14, h15, set_depth h16 d', by rw [sc_other _ _ h10]; exact h17,
      ownsRow_heap h18 (fun g hg => by simp [Value.ownBlock] at hg; subst hg; exact sc_other _ _ h11), by rw [sc_other _ _ h12]; exact h19, h20⟩)

theorem Pushed.of_mem {w X : World} {r n : Nat} {d : Int} {S : List Nat} {obj : Array Value} {w' : World} (hX : ∀ k, k < w.heap.size → X.heap[k]? = w.heap[k]?) (hs : w.heap.size ≤ X.heap.size) (ho : X.os = w.os ∧ X.tape = w.tape ∧ X.output = w.output) (hlt : ∀ k ∈ S, k < w.heap.size)
    (h : Pushed X r n d S obj w') : Pushed w r n d S obj w' := by
  obtain ⟨S', T', t', h1, h2, h3, h4⟩ := h
  exact ⟨S', T', t', h1, h2, h3, ⟨fun k hk hn => (h4.block k (by omega) hn).trans (hX k hk), fun k hk => by rcases h4.own k hk with h | h; exact .inl h; exact .inr (by omega), Nat.le_trans hs h4.size, h4.os.trans ho.1, h4.tape.trans ho.2.1, h4.output.trans ho.2.2⟩⟩

set_option maxHeartbeats 1000000 in
theorem rpush {w : World} {r n : Nat} {S : List Nat} {T t : Nat} (hS : Stk w r n n S T t) (h60 : n < 60) (pa : Option Addr) (s1 : ByteArray) (ix : Int) :
    Calls Yba.prog 9 #[.pointer (some ⟨r, 0, none⟩), .agg (objCells pa s1 ix)] w fun e w'' => e = .returned (.tuple #[]) ∧ Pushed w r n (n + 1 : Nat) S (objCells pa s1 ix) w'' := by
  have hlt := hS.2.1
  have hp : ∀ X, SameMem X (w.alloc (.cells (objCells pa s1 ix) 66)) → Calls Yba.prog 13 #[.pointer (some ⟨r, 2, none⟩), .agg (objCells pa s1 ix)] X fun e w'' => e = .returned (.tuple #[]) ∧ Pushed w r n n S (objCells pa s1 ix) w'' := fun X hX => by
    have hst : Stk X r n n S T t := (hS.blocks (w' := w.alloc (.cells (objCells pa s1 ix) 66)) (fun k hk => Below.heap_alloc w _ k (hlt k hk)) (by simp)).heap hX.heap
    obtain ⟨x1, x2, x3⟩ := hX.eqs
    refine (push_stk hst h60 pa s1 ix).mono fun e w'' he => ⟨he.1, he.2.of_mem (fun k hk => by rw [hX.heap]; exact Below.heap_alloc w _ k hk) (by rw [hX.heap]; simp) ⟨x1, x2, x3⟩ hlt⟩
  unfold objCells at hp ⊢
  go_enter Yba.func9, Yba.ntmps9
  go_wp2_with fail
  go_region_with (go_at_call 13; refine (hp _ (SameMem.drew _)).mono ?_; rintro e w' ⟨rfl, hP⟩)
  have hrS := hS.1
  clear hp hS
  obtain ⟨S', T', t', h1, hst, hcs, hfr⟩ := hP
  obtain ⟨f, m, u, hR⟩ := hst.rdr
  obtain ⟨_, _, _, c5, cf⟩ := get_rdr hR
  have cf5 := cf 5
  have hT := (hst.row (by omega)).2.1
  have HD : Hid (Pushed w r n (n + 1 : Nat) S (objCells pa s1 ix) (w'.setCell ⟨r, 5, none⟩ (.int .i64 ((n : Int) + 1)))) := by
    refine ⟨S', T', t', h1, hst.depth _, fun i hi => ?_, ⟨fun k hk hn => ?_, hfr.own, by rw [sc_size]; exact hfr.size, hfr.os, hfr.tape, hfr.output⟩⟩
    · rw [World.cell?_of_block (w := w') (w' := w'.setCell ⟨r, 5, none⟩ (.int .i64 ((n : Int) + 1))) (a := ⟨T', (t' - 1) * 10 + i, none⟩) (sc_other _ _ hT)]
      exact hcs i hi
    · rw [sc_other _ _ (fun e => hn (by rw [e]; exact hrS))]
      exact hfr.block k hk hn
  clear hst hcs hfr hR cf hlt
  go_wp2
  go_end0
  exact ⟨rfl, HD.out⟩

set_option maxHeartbeats 1000000 in
theorem ctop_first (r T n c : Nat) (w : World) (hn : 1 ≤ n) (hn8 : n ≤ 100) (h2 : w.cell? ⟨r, 2, none⟩ = some (.slice (some ⟨T, 0, none⟩) n c)) (h4 : w.cell? ⟨r, 4, none⟩ = some (.int .i64 0)) :
    Calls Yba.prog 11 #[.pointer (some ⟨r, 0, none⟩)] w fun e w' => e = .returned (.pointer (some ⟨T, (n - 1) * 10, none⟩)) ∧ ∃ m, w' = w.drewN m := by
  have e1 : ((n : Int) - 1).toNat = n - 1 := by omega
  go_enter Yba.func11, Yba.ntmps11
  go_wp2
  go_quiet (fail)
  go_wp2
  go_ret
  exact ⟨rfl, _, rfl⟩

set_option maxHeartbeats 1000000 in
theorem ctop_more (r M R u c T t cap : Nat) (w : World) (hu1 : 1 ≤ u) (hu3 : u ≤ 8) (ht : 1 ≤ t) (htc : t ≤ 1000) (h3 : w.cell? ⟨r, 3, none⟩ = some (.pointer (some ⟨M, 0, none⟩))) (h4 : w.cell? ⟨r, 4, none⟩ = some (.int .i64 u))
    (hM : w.cell? ⟨M, 0, none⟩ = some (.slice (some ⟨R, 0, none⟩) u c)) (hR : w.cell? ⟨R, u - 1, none⟩ = some (.slice (some ⟨T, 0, none⟩) t cap)) :
    Calls Yba.prog 11 #[.pointer (some ⟨r, 0, none⟩)] w fun e w' => e = .returned (.pointer (some ⟨T, (t - 1) * 10, none⟩)) ∧ ∃ m, w' = w.drewN m := by
  have e1 : ((t : Int) - 1).toNat = t - 1 := by omega
  have e2 : ((u : Int) - 1).toNat = u - 1 := by omega
  go_enter Yba.func11, Yba.ntmps11
  go_wp2
  go_quiet (fail)
  go_wp2
  go_quiet (fail)
  go_wp2
  go_ret
  exact ⟨rfl, _, rfl⟩

theorem ctop_any {w : World} {r n : Nat} {d : Int} {S : List Nat} {T t : Nat} (hS : Stk w r n d S T t) (hn : 1 ≤ n) (hn2 : n ≤ 100) :
    Calls Yba.prog 11 #[.pointer (some ⟨r, 0, none⟩)] w fun e w' => e = .returned (.pointer (some ⟨T, (t - 1) * 10, none⟩)) ∧ ∃ m, w' = w.drewN m := by
  obtain ⟨hr, hlt, h⟩ := hS
  rcases h with ⟨h0, hR⟩ | ⟨h1, h2, rfl, hTS, hTr, hR, cur, hT, hc⟩ | ⟨F, M, R, u, c, cap, xs, cur, h1, h2, h3, h4, h5, h6, hMS, hRS, hTS, h10, h11, h12, h13, h14, h15, h16, h17, h18, h19, h20⟩
  · omega
  · obtain ⟨c2, c3, c4, c5, fr⟩ := get_rdr hR
    exact ctop_first r T t 8 w hn hn2 c2 c4
  · obtain ⟨c2, c3, c4, c5, fr⟩ := get_rdr h16
    exact ctop_more r M R u c T t cap w h1 (by omega) h4 (by omega) c3 c4 (cell_of_row _ _ 0 _ 72 (0, 0) h17) (own_last h18).1

end Go.Proofs.Ybulkjwu
