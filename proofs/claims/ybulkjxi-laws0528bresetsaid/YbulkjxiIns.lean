/-
  slices.Insert of one item into a leaf's items: that it returns, where the new row lies, and that all of it is strings.
-/
import Derived.Test.YbulkjxiRows
import Derived.WalkKit
import Derived.WalkSpells
import Derived.WalkLawsBesides
import Derived.Deep.QuietTactic
import Derived.BigQuiet
import Derived.Deep.RegionLaw
import Derived.Shelf.Spec.SlicesInsertGrow
namespace Go.Proofs.Ybulkjxi
open Go.RowKit Go.Lib
set_option linter.unusedSimpArgs false
set_option linter.unusedVariables false

theorem info59 : (Yba.prog.info? 59).map (fun i => (i.zero, i.size, i.bytes)) = some (some (.agg #[.string ⟨#[]⟩]), 1, 24) := by kernel_rfl
theorem size59 : (Yba.prog.info? 59).map (·.size) = some 1 := by kernel_rfl
theorem sizeOf59 (w : World) : (Go.sizeOf 59).run Yba.prog w = .ok 1 w := by kernel_rfl

set_option maxHeartbeats 4000000 in
set_option maxRecDepth 100000 in
/-- There is room, i < len(s): in place. -/
theorem ins_shift (b n c i vb : Nat) (cs : List Value) (x : Value) (w : World) (hi : i < n) (hroom : n + 1 ≤ c) (hc63 : c ≤ 9223372036854775807) (hvb : vb ≠ b) (hcl : cs.length = n)
    (hcs : ∀ j v, cs[j]? = some v → w.cell? ⟨b, j, none⟩ = some v) (hsp : ∀ j, j < n + 1 → (w.cell? ⟨b, j, none⟩).isSome = true) (hfz : ∀ j, j < n + 1 → w.frozen? ⟨b, j, none⟩ = false)
    (hvs : w.cell? ⟨vb, 0, none⟩ = some x) (h1c : ∀ v ∈ cs, v.oneCell' = true) (h1v : x.oneCell' = true)
    (tA tB : TypeId) (kA kB : Nat) (hsa : w.shape? vb = some (tA, kA)) (hsb : w.shape? b = some (tB, kB)) (hkB : kB ≠ 0) (hfa : w.frozen? ⟨vb, 0, none⟩ = false) (hfe : w.frozen? ⟨vb, kA, none⟩ = false) :
    Calls Yba.prog 18 #[.slice (some ⟨b, 0, none⟩) n c, .int .i64 i, .slice (some ⟨vb, 0, none⟩) 1 1] w fun e w' =>
      e = .returned (.slice (some ⟨b, 0, none⟩) (n + 1) c) ∧ w' = (w.drew.setCells b (i + 1) (cs.drop i)).setCells b i [x] := by
  have hz2 : ¬ ((i : Int) = (n : Int)) := by omega
  have hov : ∀ lb cb, (callFunc 22 #[.slice (some ⟨vb, 0, none⟩) 1 1, .slice (some ⟨b, i + 1, none⟩) lb cb]).run Yba.prog w = .ok (.value (.bool false)) w := fun lb cb => by
    rw [run_callFunc_extern Yba.func22 (by kernel_rfl) (by kernel_rfl) (by kernel_rfl) (e := Extern.SlicesOverlaps.overlaps #[51, 51] #[4]) (by kernel_rfl),
      Lib.run_overlaps_apart w 51 4 59 Yba.underlying51 1 sizeOf59 ⟨vb, 0, none⟩ ⟨b, i + 1, none⟩ 1 1 lb cb hvb tA tB kA kB hsa hsb hkB hfa hfe]
    rfl
  have hdl : (cs.drop i).length = n - i := by rw [List.length_drop, hcl]
  have hcp1 : ∀ ty dc sc, (Builtin.copy_ #[51, 51] ty #[.slice (some ⟨b, i + 1, none⟩) (n - i) dc, .slice (some ⟨b, i, none⟩) (n + 1 - i) sc]).run Yba.prog w.drew = .ok (goInt (cs.drop i).length) (w.drew.setCells b (i + 1) (cs.drop i)) := fun ty dc sc =>
    run_copy_cells w.drew _ _ ty 59 b (i + 1) (n - i) dc ⟨b, i, none⟩ (n + 1 - i) sc (cs.drop i) Yba.underlying51 size59 (by rw [hdl]; simp only [Nat.min_def]; split <;> omega)
      (fun j v hj => by rw [Addr.add_lit]; exact hcs (i + j) v (by rwa [List.getElem?_drop] at hj))
      (fun j hj => hsp _ (by omega)) (fun j hj => hfz _ (by omega)) (fun v hv => h1c v (List.mem_of_mem_drop hv))
  obtain ⟨W1, hW1⟩ : ∃ W1, W1 = w.drew.setCells b (i + 1) (cs.drop i) := ⟨_, rfl⟩
  have hsp1 : ∀ k, k < n + 1 → (W1.cell? ⟨b, k, none⟩).isSome = true := fun k hk => by
    rw [hW1]
    exact isSome_setCells b (cs.drop i) (i + 1) w.drew (fun j hj => hsp _ (by rw [hdl] at hj; omega)) _ (hsp k hk)
  have hcp2 : ∀ (W : World), (∀ x, W.cell? x = W1.cell? x) → (∀ x, W.frozen? x = W1.frozen? x) → ∀ ty dc, (Builtin.copy_ #[51, 51] ty #[.slice (some ⟨b, i, none⟩) (n + 1 - i) dc, .slice (some ⟨vb, 0, none⟩) 1 1]).run Yba.prog W = .ok (goInt ([x] : List Value).length) (W.setCells b i [x]) := fun W hWc hWf ty dc =>
    run_copy_cells W _ _ ty 59 b i (n + 1 - i) dc ⟨vb, 0, none⟩ 1 1 [x] Yba.underlying51 size59 (by simp only [Nat.min_def, List.length_singleton]; split <;> omega)
      (fun j v hj => by
        match j, hj with
        | 0, hj =>
          simp at hj
          subst hj
          rw [Addr.add_lit, hWc, hW1, World.cell?_setCells_out b _ _ _ _ (fun h _ => absurd h hvb)]
          exact hvs)
      (fun j hj => by rw [hWc]; exact hsp1 _ (by simp at hj; omega)) (fun j hj => by rw [hWf, hW1, World.frozen?_setCells]; exact hfz _ (by simp at hj; omega)) (fun v hv => by simp at hv; subst hv; exact h1v)
  rw [← hW1] at hcp1
  have hw1 : IntKind.i64.wrap ((i : Int) + 1) = (i : Int) + 1 := by rw [IntKind.wrap_i64]; omega
  have hb1 : (0 : Int) ≤ (i : Int) + 1 := by omega
  have hin : i ≤ n := by omega
  have htn : ((i : Int) + 1).toNat = i + 1 := by omega
  have hb2 : ¬ (c = i + 1) := by omega
  have hb3 : (i : Int) ≤ (n : Int) + 1 := by omega
  have hb4 : ¬ (c = i) := by omega
  go_enter Yba.func18, Yba.ntmps18
  go_wp2_with (simp only [hov])
  go_region_law (refine step_copy_runI rfl _ _ 51 51 rfl _ _ (by simp [Act.eval, Act.put]) (by simp [Act.eval, Act.put]) (hcp1 _ _ _) ?_)
  go_wp2_with (at_builtin; refine wpList_copy_runI _ rfl _ _ 51 51 rfl _ _ rfl rfl (hcp2 _ (fun _ => rfl) (fun _ => rfl) _ _) ?_)
  go_ret
  first | exact ⟨rfl, rfl⟩ | exact ⟨rfl, by rw [hW1]⟩

set_option maxHeartbeats 4000000 in
set_option maxRecDepth 100000 in
/-- No room, i < len(s): a new row. -/
theorem ins_grow (b n c i vb : Nat) (cs : List Value) (x : Value) (w : World) (hi : i < n) (hnc : n ≤ c) (hroom : c < n + 1) (hbig : n ≤ 1000000) (hcl : cs.length = n)
    (hcs : ∀ j v, cs[j]? = some v → w.cell? ⟨b, j, none⟩ = some v) (hvs : w.cell? ⟨vb, 0, none⟩ = some x) (h1c : ∀ v ∈ cs, v.oneCell' = true) (h1v : x.oneCell' = true) :
    Calls Yba.prog 18 #[.slice (some ⟨b, 0, none⟩) n c, .int .i64 i, .slice (some ⟨vb, 0, none⟩) 1 1] w fun e w' => ∃ G ROW, n + 1 ≤ G ∧ G ≤ maxLen ∧ ROW.size = G ∧ (∀ j, j < i → ROW[j]? = cs[j]?) ∧
      e = .returned (.slice (some ⟨w.heap.size, 0, none⟩) (n + 1) G) ∧
      w' = (((w.alloc (.cells ROW 59)).drew.setCells w.heap.size i [x]).drew).setCells w.heap.size (i + 1) (cs.drop i) := by
  obtain ⟨i0, hi0, hz0, hzs, hzb⟩ := info_parts info59
  have hz2 : ¬ ((i : Int) = (n : Int)) := by omega
  have hz3 : (c : Int) < (n : Int) + 1 := by omega
  have hbw : b < w.heap.size := block_lt_of_cell (hcs 0 _ (List.getElem?_eq_getElem (by omega)))
  have hvw : vb < w.heap.size := block_lt_of_cell hvs
  have hkk : (n : Int) + 1 - (i : Int) = ((n + 1 - i : Nat) : Int) := by omega
  have hik : i + (n + 1 - i) = n + 1 := by omega
  have hold : (Builtin.firstCells i0.size i (.slice (some ⟨b, 0, none⟩) i c)).run Yba.prog w.drew = .ok (cs.take i).toArray w.drew := by
    rw [hzs]
    exact run_firstCells_some w.drew 1 i ⟨b, 0, none⟩ i c (cs.take i) (by rw [List.length_take]; omega) (fun j v hj => by
      rw [Addr.add_lit]
      rw [List.getElem?_take] at hj
      split at hj
      · rw [Nat.zero_add]; exact hcs j v hj
      · cases hj)
  have hrz : ∀ ty, (Builtin.append_ #[51, 3] ty #[.slice (some ⟨b, 0, none⟩) i c, .int .i64 ((n : Int) + 1 - (i : Int))]).run Yba.prog w =
      .ok (.slice (some ⟨w.heap.size, 0, none⟩) (n + 1) (grownCap w (n + 1) c 59)) (w.drew.alloc (.cells ((cs.take i).toArray ++ Builtin.zeroCells (Value.agg #[.string ⟨#[]⟩]).cells (n + 1 - i) ++ Builtin.zeroCells (Value.agg #[.string ⟨#[]⟩]).cells (grownCap w (n + 1) c 59 - (n + 1))) 59)) := fun ty => by
    have h := Lib.run_append_grow_zeros w 51 3 ty 59 i0 _ .i64 .i64 Yba.underlying51 Yba.underlying3 hi0 hz0 (some ⟨b, 0, none⟩) i c (cs.take i) hold (n + 1 - i) (by omega) (by omega) (by omega) (by omega) (by rw [hzb]; omega) (by rw [hzb, hik]; exact growslice_fits hroom (by omega))
    rw [hik] at h
    rw [hkk]
    exact h
  have hGn : n + 1 ≤ grownCap w (n + 1) c 59 := grownCap_ge w _ _ _
  have hGm := grownCap_le_maxLen w (n + 1) c 59 (by unfold maxLen; omega)
  obtain ⟨G, hG⟩ : ∃ G, G = grownCap w (n + 1) c 59 := ⟨_, rfl⟩
  obtain ⟨ROW, hROW⟩ : ∃ ROW : Array Value, ROW = (cs.take i).toArray ++ Builtin.zeroCells (Value.agg #[.string ⟨#[]⟩]).cells (n + 1 - i) ++ Builtin.zeroCells (Value.agg #[.string ⟨#[]⟩]).cells (G - (n + 1)) := ⟨_, rfl⟩
  rw [← hG] at hrz hGn hGm
  rw [← hROW] at hrz
  have hRl : ROW.size = G := by
    rw [hROW]
    simp [Builtin.zeroCells, Value.cells]
    omega
  have hRc : ∀ j, j < i → ROW[j]? = cs[j]? := fun j hj => by
    rw [hROW, Array.getElem?_append_left (by simp [Builtin.zeroCells, Value.cells]; omega), Array.getElem?_append_left (by simp; omega)]
    simp [List.getElem?_take, hj]
  obtain ⟨W1, hW1⟩ : ∃ W1, W1 = w.drew.alloc (.cells ROW 59) := ⟨_, rfl⟩
  rw [← hW1] at hrz
  have hN : ∀ j, j < n + 1 → (W1.cell? ⟨w.heap.size, j, none⟩).isSome = true := fun j hj => by
    rw [hW1, World.cell?_alloc_at (w := w.drew) ROW _ w.heap.size j rfl, Array.getElem?_eq_getElem (by omega)]; rfl
  have hNf : ∀ j, W1.frozen? ⟨w.heap.size, j, none⟩ = false := fun j => by rw [hW1]; exact World.frozen?_alloc_at (w := w.drew) ROW _ w.heap.size j rfl
  have hOb : ∀ j v, w.cell? ⟨b, j, none⟩ = some v → W1.cell? ⟨b, j, none⟩ = some v := fun j v h => by rw [hW1, World.cell?_alloc_past (w := w.drew) _ b j hbw]; exact h
  have hOv : ∀ j v, w.cell? ⟨vb, j, none⟩ = some v → W1.cell? ⟨vb, j, none⟩ = some v := fun j v h => by rw [hW1, World.cell?_alloc_past (w := w.drew) _ vb j hvw]; exact h
  have hcpA : ∀ (W : World), (∀ x, W.cell? x = W1.cell? x) → (∀ x, W.frozen? x = W1.frozen? x) → ∀ ty dc, (Builtin.copy_ #[51, 51] ty #[.slice (some ⟨w.heap.size, i, none⟩) (n + 1 - i) dc, .slice (some ⟨vb, 0, none⟩) 1 1]).run Yba.prog W = .ok (goInt ([x] : List Value).length) (W.setCells w.heap.size i [x]) := fun W hWc hWf ty dc =>
    run_copy_cells W _ _ ty 59 w.heap.size i (n + 1 - i) dc ⟨vb, 0, none⟩ 1 1 [x] Yba.underlying51 size59 (by simp only [Nat.min_def, List.length_singleton]; split <;> omega)
      (fun j v hj => by
        match j, hj with
        | 0, hj =>
          simp at hj
          subst hj
          rw [Addr.add_lit, hWc]
          exact hOv _ _ hvs)
      (fun j hj => by rw [hWc]; exact hN _ (by simp at hj; omega)) (fun j hj => by rw [hWf]; exact hNf _) (fun v hv => by simp at hv; subst hv; exact h1v)
  have hG63 : G ≤ 9223372036854775807 := by
    have := hGm
    unfold maxLen at this
    omega
  have hGi : ¬ (G = i) := by omega
  have hGim : ¬ (G = i + 1) := by omega
  have hci : ¬ (c = i) := by omega
  have hbN : b ≠ w.heap.size := by omega
  have hdl : (cs.drop i).length = n - i := by rw [List.length_drop, hcl]
  have hcpB : ∀ (W : World), (∀ y, W.cell? y = (W1.setCells w.heap.size i [x]).cell? y) → (∀ y, W.frozen? y = (W1.setCells w.heap.size i [x]).frozen? y) → ∀ ty dc sc, (Builtin.copy_ #[51, 51] ty #[.slice (some ⟨w.heap.size, i + 1, none⟩) (n - i) dc, .slice (some ⟨b, i, none⟩) (n - i) sc]).run Yba.prog W = .ok (goInt (cs.drop i).length) (W.setCells w.heap.size (i + 1) (cs.drop i)) := fun W hWc hWf ty dc sc =>
    run_copy_cells W _ _ ty 59 w.heap.size (i + 1) (n - i) dc ⟨b, i, none⟩ (n - i) sc (cs.drop i) Yba.underlying51 size59 (by rw [hdl]; simp only [Nat.min_def]; split <;> omega)
      (fun j v hj => by
        rw [Addr.add_lit, hWc, World.cell?_setCells_out _ _ _ _ _ (fun h _ => absurd h hbN)]
        exact hOb _ v (hcs (i + j) v (by rwa [List.getElem?_drop] at hj)))
      (fun j hj => by rw [hWc]; exact isSome_setCells w.heap.size [x] i W1 (fun t ht => hN _ (by simp at ht; omega)) _ (hN _ (by rw [hdl] at hj; omega)))
      (fun j hj => by rw [hWf, World.frozen?_setCells]; exact hNf _) (fun v hv => h1c v (List.mem_of_mem_drop hv))
  subst hW1
  have hE1 : ∀ y, ((w.alloc (.cells ROW 59)).drew).cell? y = (w.drew.alloc (.cells ROW 59)).cell? y := fun y => rfl
  have hE2 : ∀ y, ((w.alloc (.cells ROW 59)).drew).frozen? y = (w.drew.alloc (.cells ROW 59)).frozen? y := fun y => rfl
  have hF1 : ∀ y, (((w.alloc (.cells ROW 59)).drew.setCells w.heap.size i [x]).drew).cell? y = ((w.drew.alloc (.cells ROW 59)).setCells w.heap.size i [x]).cell? y := fun y => rfl
  have hF2 : ∀ y, (((w.alloc (.cells ROW 59)).drew.setCells w.heap.size i [x]).drew).frozen? y = ((w.drew.alloc (.cells ROW 59)).setCells w.heap.size i [x]).frozen? y := fun y => rfl
  have hw1 : IntKind.i64.wrap ((i : Int) + 1) = (i : Int) + 1 := by rw [IntKind.wrap_i64]; omega
  have hb1 : (0 : Int) ≤ (i : Int) + 1 := by omega
  have hin : i ≤ n := by omega
  have htn : ((i : Int) + 1).toNat = i + 1 := by omega
  have hb3 : (i : Int) ≤ (n : Int) := by omega
  have HG : Hid (n + 1 ≤ G ∧ G ≤ maxLen ∧ ROW.size = G ∧ (∀ j, j < i → ROW[j]? = cs[j]?)) := ⟨hGn, hGm, hRl, hRc⟩
  clear hkk hik hold hROW hG hRl hRc hGm
  go_enter Yba.func18, Yba.ntmps18
  go_wp2_with (first
    | (at_builtin; refine Lib.wpList_append_run _ rfl _ _ _ _ rfl _ _ rfl rfl _ _ (hrz _) ?_)
    | (at_builtin; refine wpList_copy_runI _ rfl _ _ 51 51 rfl _ _ rfl rfl (hcpA _ hE1 hE2 _ _) ?_))
  go_region_law (refine step_copy_runI rfl _ _ 51 51 rfl (.slice (some ⟨w.heap.size, i + 1, none⟩) (n - i) (G - (i + 1))) (.slice (some ⟨b, i, none⟩) (n - i) (c - i)) (by simp [Act.eval, Act.put]) (by simp [Act.eval, Act.put]) (hcpB _ hF1 hF2 3 (G - (i + 1)) (c - i)) ?_)
  go_wp2
  go_ret
  exact ⟨G, ROW, HG.out.1, HG.out.2.1, HG.out.2.2.1, HG.out.2.2.2, rfl, rfl⟩

end Go.Proofs.Ybulkjxi
