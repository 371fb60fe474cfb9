/-
  (*Indexed[int]).Put, Len, Clear; NewIndexed[int].
-/
import Derived.Test.YbulkjxiTab
namespace Go.Proofs.Ybulkjxi
open Go.RowKit Go.Maps
set_option linter.unusedSimpArgs false
set_option linter.unusedVariables false

set_option maxHeartbeats 400000 in
theorem len_some {w : World} {p s : Nat} {S : List Nat} (h : Tab w p s S) : Calls Yba.prog 6 #[.pointer (some ⟨p, 0, none⟩)] w fun e w' => e = .returned (.int .i64 s) ∧ w = w' := by
  obtain ⟨m, rv, n, T, D, h⟩ := h
  have p0 : w.cell? ⟨p, 0, none⟩ = some (.map (some m)) := cell_of_row _ _ 0 _ 45 (0, 0) h.own
  have hown := h.vals
  have hsz := h.size
  clear h
  go_enter Yba.func6, Yba.ntmps6
  go_wp2_with (at_len; refine wpList_len_own _ rfl _ 38 rfl 9 3 Yba.underlying38 _ m s D rfl hown ?_)
  go_ret
  exact ⟨by rw [← hsz]; rfl, rfl⟩

theorem len_nil (w : World) : Calls Yba.prog 6 #[.pointer none] w fun e w' => e = .returned (.int .i64 0) ∧ w = w' := by
  go_enter Yba.func6, Yba.ntmps6
  go_wp2
  go_ret
  exact ⟨rfl, rfl⟩

/-- A key that is there: the value is laid in its place. -/
theorem tab_put_same {w w1 : World} {p s : Nat} {S : List Nat} {m : Nat} {rv : Value} {n : Nat} {T : List Nat} {D D1 : DataW Unit} (h : TabAt w p s S m rv n T D) (hg : w.grownBy w1 (some m)) (ho : w1.ownsMap Yba.prog 9 (plainElem Yba.prog 3) m (s + 1) D1)
    {s1 : Nat} (hs : Maps.size D1 = s1) (hle : s ≤ s1) (hk : ∀ kl, Maps.has D1 kl = true → kl ∈ keyLits) : TabAt w1 p s1 S m rv n T D1 ∧ Fr w w1 S S := by
  have hp := (Array.getElem?_eq_some_iff.1 h.own).1
  have ho' := ownsMap_tight ho
  rw [hs] at ho'
  refine ⟨⟨(hg.block p hp (fun e => h.pm (by injection e))).trans h.own, ho', hs, hk, h.root.blocks (fun k hk' => hg.block k (h.root.1 k hk') (fun e => h.mT (by injection e with e; rw [← e]; exact hk'))) hg.size, Nat.le_trans h.le hle, h.pS, h.mS, h.TS, h.pm, h.pT, h.mT, fun k hk' => Nat.lt_of_lt_of_le (h.lt k hk') hg.size⟩,
    ⟨fun k hk' hn => hg.block k hk' (fun e => hn (by injection e with e; rw [e]; exact h.mS)), fun k hk' => .inl hk', hg.size, hg.os, hg.tape, hg.output⟩⟩

/-- Behind Add | Clear of the tree. -/
theorem tab_kept {w w' : World} {p s : Nat} {S : List Nat} {m : Nat} {rv rv' : Value} {n n' : Nat} {T T' : List Nat} {D : DataW Unit} (h : TabAt w p s S m rv n T D) (k : Kept w w' p (.map (some m)) T rv' n' T') (hn : n' ≤ s) :
    ∃ S', TabAt w' p s S' m rv' n' T' D ∧ Fr w w' S S' := by
  have hml := h.lt m h.mS
  have hpl := h.lt p h.pS
  refine ⟨p :: m :: T', ⟨k.own, ownsMap_heap h.vals (k.block m hml (fun e => h.pm e.symm) h.mT), h.size, h.keys, k.root, hn, by simp, by simp, fun j hj => by simp [hj], h.pm, fun hj => ?_, fun hj => ?_, fun j hj => ?_⟩, ⟨fun j hj hjn => k.block j hj (fun e => hjn (by rw [e]; exact h.pS)) (fun e => hjn (h.TS j e)), fun j hj => ?_, k.size, k.os, k.tape, k.output⟩⟩
  · rcases k.mine p hj with e | e
    · exact h.pT e
    · omega
  · rcases k.mine m hj with e | e
    · exact h.mT e
    · omega
  · have := k.size
    rcases List.mem_cons.1 hj with rfl | hj
    · omega
    · rcases List.mem_cons.1 hj with rfl | hj
      · omega
      · exact k.root.1 j hj
  · rcases List.mem_cons.1 hj with rfl | hj
    · exact .inl h.pS
    · rcases List.mem_cons.1 hj with rfl | hj
      · exact .inl h.mS
      · rcases k.mine j hj with e | e
        · exact .inl (h.TS j e)
        · exact .inr e

theorem Fr.trans {w w' w'' : World} {S S' S'' : List Nat} (h : Fr w w' S S') (k : Fr w' w'' S' S'') : Fr w w'' S S'' :=
  ⟨fun j hj hn => (k.block j (Nat.lt_of_lt_of_le hj h.size) (fun hm => by rcases h.own j hm with h1 | h1; exact hn h1; omega)).trans (h.block j hj hn),
   fun j hj => by rcases k.own j hj with h1 | h1; exact h.own j h1; exact .inr (Nat.le_trans h.size h1), Nat.le_trans h.size k.size, k.os.trans h.os, k.tape.trans h.tape, k.output.trans h.output⟩

theorem isKey_string (l : List UInt8) : WideAt.IsKeyLit (.string l) := by simp [WideAt.IsKeyLit]

set_option maxHeartbeats 1000000 in
theorem iput_any {w : World} {p s : Nat} {S : List Nat} (h : Tab w p s S) (key : ByteArray) (v : Int) (hv : (Lit.int .i64 v).wf = true) (hkl : Lit.string key.data.toList ∈ keyLits) (hks : key.size ≤ maxLen) :
    Calls Yba.prog 9 #[.pointer (some ⟨p, 0, none⟩), .string key, .int .i64 v] w fun e w' => (∃ b, e = .returned (.bool b)) ∧ ∃ s' S', Tab w' p s' S' ∧ Fr w w' S S' := by
  obtain ⟨m, rv, n, T, D, h⟩ := h
  have hsm := h.small
  have hkey : keyOf Yba.prog 9 (.string key) = some (.string key.data.toList) := WideMaps.keyOf_string_mk (P := Yba.prog) Yba.underlying9 hks
  have p0 : w.cell? ⟨p, 0, none⟩ = some (.map (some m)) := cell_of_row _ _ 0 _ 45 (0, 0) h.own
  have htidy := h.vals.tidy law9
  have hkeys1 : ∀ kl, Maps.has (D.put (.string key.data.toList) (.lit (.int .i64 v))) kl = true → kl ∈ keyLits := fun kl hh => by
    by_cases e : kl = .string key.data.toList
    · rw [e]; exact hkl
    · rw [Maps.has_put_other e] at hh
      exact h.keys kl hh
  have hs1 := Maps.size_put (k := .string key.data.toList) htidy (.lit (.int .i64 v))
  have hown := h.vals
  have hsz := h.size
  obtain ⟨D1, hD1⟩ : ∃ D1, D1 = D.put (.string key.data.toList) (.lit (.int .i64 v)) := ⟨_, rfl⟩
  rw [← hD1] at hs1 hkeys1
  have HD1 : Hid (D1 = D.put (.string key.data.toList) (.lit (.int .i64 v))) := hD1
  clear hD1
  have pl := h.lt p h.pS
  have hpm := h.pm
  have hmx : s < maxLen := by unfold maxLen; omega
  by_cases hhas : Maps.has D (.string key.data.toList) = true
  · rw [if_pos hhas, hsz] at hs1
    have HE : Hid (∀ w1, w1.ownsMap Yba.prog 9 (plainElem Yba.prog 3) m (s + 1) D1 → w.grownBy w1 (some m) → ∃ s' S', Tab w1 p s' S' ∧ Fr w w1 S S') := fun w1 ho hg => by
      obtain ⟨t1, f1⟩ := tab_put_same h hg ho hs1 (Nat.le_refl _) hkeys1
      exact ⟨s, S, ⟨m, rv, n, T, D1, t1⟩, f1⟩
    clear h hkeys1 htidy hhas
    go_enter Yba.func9, Yba.ntmps9
    go_wp2_with (first
      | (at_len; refine wpList_len_own _ rfl _ 38 rfl 9 3 Yba.underlying38 _ m s D rfl hown ?_)
      | (at_mapUpdate; refine wpList_mapUpdate_own _ rfl _ _ _ 38 rfl 9 3 law9 Yba.underlying38 _ m s D rfl hown hmx _ _ _ rfl rfl hkey _ [] (plainElem_int Yba.underlying3 hv) ?_; intro w1 hown1 hgr1; rw [← HD1.out] at hown1; have hfin := HE.out w1 hown1 hgr1; have p0' : w1.cell? ⟨p, 0, none⟩ = some (.map (some m)) := (World.cell?_of_block (a := ⟨p, 0, none⟩) (hgr1.block p pl (fun e => hpm (by injection e)))).trans p0; clear HE)
      | (at_len; refine wpList_len_own _ rfl _ 38 rfl 9 3 Yba.underlying38 _ m (s + 1) D1 rfl hown1 ?_))
    go_ret
    exact ⟨⟨_, rfl⟩, hfin⟩
  · rw [if_neg hhas, hsz] at hs1
    have HE : Hid (∀ w1, w1.ownsMap Yba.prog 9 (plainElem Yba.prog 3) m (s + 1) D1 → w.grownBy w1 (some m) → Calls Yba.prog 11 #[.pointer (some ⟨p, 1, none⟩), .string key] w1 fun e w' => e = .returned (.tuple #[]) ∧ ∃ s' S', Tab w' p s' S' ∧ Fr w w' S S') := fun w1 ho hg => by
      obtain ⟨t1, f1⟩ := tab_put_same h hg ho hs1 (Nat.le_succ _) hkeys1
      refine (add_any key t1.own t1.root t1.pT (by have := h.le; omega)).mono ?_
      rintro e w' ⟨rfl, rv', n', T', hn', hk⟩
      obtain ⟨S', t2, f2⟩ := tab_kept t1 hk (by have := h.le; omega)
      exact ⟨rfl, s + 1, S', ⟨m, rv', n', T', D1, t2⟩, f1.trans f2⟩
    clear h hkeys1 htidy hhas
    go_enter Yba.func9, Yba.ntmps9
    go_wp2_with (first
      | (at_len; refine wpList_len_own _ rfl _ 38 rfl 9 3 Yba.underlying38 _ m s D rfl hown ?_)
      | (at_mapUpdate; refine wpList_mapUpdate_own _ rfl _ _ _ 38 rfl 9 3 law9 Yba.underlying38 _ m s D rfl hown hmx _ _ _ rfl rfl hkey _ [] (plainElem_int Yba.underlying3 hv) ?_; intro w1 hown1 hgr1; rw [← HD1.out] at hown1; have hfin := HE.out w1 hown1 hgr1; have p0' : w1.cell? ⟨p, 0, none⟩ = some (.map (some m)) := (World.cell?_of_block (a := ⟨p, 0, none⟩) (hgr1.block p pl (fun e => hpm (by injection e)))).trans p0; clear HE)
      | (at_len; refine wpList_len_own _ rfl _ 38 rfl 9 3 Yba.underlying38 _ m (s + 1) D1 rfl hown1 ?_)
      | (go_at_call 11; refine hfin.mono ?_; rintro e w' ⟨rfl, hf2⟩))
    go_ret
    exact ⟨⟨_, rfl⟩, hf2⟩

end Go.Proofs.Ybulkjxi
