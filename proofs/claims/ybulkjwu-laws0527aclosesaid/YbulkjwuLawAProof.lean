/-
  LawS0527AClose: all ways together; the row.
-/
import Derived.Test.YbulkjwuLawB
import Derived.Test.YbulkjwuLawC
import Derived.ProofKit
import Derived.OpenShut
import Derived.ShutString
import Derived.ChangeOld
import Derived.Below
namespace Go.Proofs.Ybulkjwu
open Go.ChangeShapes Go.WideShapes Go.ChangeAt Go.RowKit
set_option linter.unusedSimpArgs false
set_option linter.unusedVariables false

set_option maxRecDepth 100000 in
set_option maxHeartbeats 1000000 in
theorem law_long (ad aa ab : Option Addr) (nd cd na ca nb cb : Nat) (pos k st : Int) (w : World) (h : ¬ (nd ≤ 1024 ∧ na ≤ 1024 ∧ nb ≤ 1024)) :
    Calls Yba.prog 3 #[.slice ad nd cd, .int .i64 pos, .slice aa na ca, .slice ab nb cb, .int .u8 k, .int .u8 st] w fun e w' => e = .returned (.bool true) ∧ Below w.heap.size w w' := by
  by_cases hA : nd ≤ 1024
  · by_cases hC : na ≤ 1024
    · have hl : 1024 < nb := by
        rcases Nat.lt_or_ge 1024 nb with h1 | h1
        · exact h1
        · exact absurd ⟨hA, hC, h1⟩ h
      clear h
      go_enter Yba.func3, Yba.ntmps3
      go_wp2
      go_ret
      exact ⟨rfl, Below.refl _ _⟩
    · have hC' : 1024 < na := by omega
      clear h hC
      go_enter Yba.func3, Yba.ntmps3
      go_wp2
      go_ret
      exact ⟨rfl, Below.refl _ _⟩
  · have hA' : 1024 < nd := by omega
    clear h hA
    go_enter Yba.func3, Yba.ntmps3
    go_wp2
    go_ret
    exact ⟨rfl, Below.refl _ _⟩

set_option maxRecDepth 100000 in
set_option maxHeartbeats 1000000 in
theorem law_empty (ad aa ab : Option Addr) (nd cd ca cb : Nat) (pos k st : Int) (w : World) (h : nd ≤ 1024) :
    Calls Yba.prog 3 #[.slice ad nd cd, .int .i64 pos, .slice aa 0 ca, .slice ab 0 cb, .int .u8 k, .int .u8 st] w fun e w' => e = .returned (.bool true) ∧ Below w.heap.size w w' := by
  go_enter Yba.func3, Yba.ntmps3
  go_wp2
  go_ret
  exact ⟨rfl, Below.refl _ _⟩

theorem law_walk (ad : Option Addr) (nd cd : Nat) (pos : Int) (aa ab : Option Addr) (na ca nb cb : Nat) (la lb : List Bool) (k st : Int) (w : World)
    (hna : la.length = na) (hnb : lb.length = nb) (hca : na ≤ ca) (hcb : nb ≤ cb) (hk0 : 0 ≤ k) (hk1 : k ≤ 255) (hs0 : 0 ≤ st) (hs1 : st ≤ 255) (hA : Bools w aa la) (hB : Bools w ab lb) :
    Calls Yba.prog 3 #[.slice ad nd cd, .int .i64 pos, .slice aa na ca, .slice ab nb cb, .int .u8 k, .int .u8 st] w fun e w' => e = .returned (.bool true) ∧ Below w.heap.size w w' := by
  by_cases h : nd ≤ 1024 ∧ na ≤ 1024 ∧ nb ≤ 1024
  · obtain ⟨hd, ha, hb⟩ := h
    rcases Nat.eq_zero_or_pos nb with rfl | hb1
    · rcases Nat.eq_zero_or_pos na with rfl | ha1
      · exact law_empty ad aa ab nd cd ca cb pos k st w hd
      · exact law_first ad nd cd pos aa ab ca cb na la lb k st w hna hnb hd hca hcb ha1 ha hk0 hk1 hs0 hs1 hA hB
    · rcases Nat.lt_or_ge nb 2 with h2 | h2
      · have e1 : nb = 1 := by omega
        subst e1
        rcases Nat.eq_zero_or_pos na with rfl | ha1
        · exact law_last0 ad nd cd pos aa ab ca cb la lb k st w hna hnb hd hca hcb hk0 hk1 hs0 hs1 hA hB
        · exact law_last ad nd cd pos aa ab ca cb na la lb k st w hna hnb hd hca hcb ha1 ha hk0 hk1 hs0 hs1 hA hB
      · rcases Nat.eq_zero_or_pos na with rfl | ha1
        · exact law_more0 ad nd cd pos aa ab ca cb nb la lb k st w hna hnb hd hca hcb h2 hb hk0 hk1 hs0 hs1 hA hB
        · exact law_more ad nd cd pos aa ab ca cb na nb la lb k st w hna hnb hd hca hcb ha1 ha h2 hb hk0 hk1 hs0 hs1 hA hB
  · exact law_long ad aa ab nd cd na ca nb cb pos k st w h

/-- A slice of bools that came in, as the walk is told of it. -/
theorem bools_of {H : Type} {enc : TypeId × Value → H} {W : World} {a : Option Addr} {n c : Nat} {d : DataW H} {p : List MemPlace} (h : DataW.Trod enc Yba.prog W 0 (fun _ => true) true 23 (.slice a n c) d p) :
    n ≤ c ∧ ∃ l : List Bool, l.length = n ∧ Bools W a l := by
  obtain ⟨fuel, hf⟩ := h
  have hc4 : Yba.prog.cellsOf 4 = 1 := by kernel_rfl
  rcases DataW.trod_slice Yba.underlying23 hf with ⟨hcs, _⟩ | ⟨x, len, cap, elems, rest, m, _, hcs, _, hb, hl, hm, hlen, hel, hsp, hns⟩
  · simp [Value.cells] at hcs
    obtain ⟨rfl, rfl, rfl⟩ := hcs
    exact ⟨Nat.le_refl _, [], rfl, .inl rfl⟩
  · simp [Value.cells] at hcs
    obtain ⟨rfl, rfl, rfl⟩ := hcs
    refine ⟨hl, ?_⟩
    have each : ∀ i, i < n → ∃ b : Bool, W.cell? (x.add i) = some (.bool b) := by
      intro i hi
      have h1 := hel i hi
      rw [List.getElem?_eq_getElem (by omega), hc4, Nat.mul_one, Option.bind_eq_some_iff] at h1
      obtain ⟨cs', hcs', hy⟩ := h1
      obtain ⟨b, rfl, _⟩ := DataW.trod_bool Yba.underlying4 hy
      exact ⟨b, cell_of_cells?_one hcs'⟩
    rcases Nat.eq_zero_or_pos n with rfl | hpos
    · exact ⟨[], rfl, .inl rfl⟩
    · obtain ⟨g, off, spot⟩ := x
      obtain ⟨b0, hb0⟩ := each 0 hpos
      have hspot : spot = none := by simpa [Addr.add] using World.cell?_spot hb0
      subst hspot
      have each' : ∀ i, i < n → ∃ b : Bool, W.cell? ⟨g, off + i, none⟩ = some (.bool b) := fun i hi => by rw [← add_plain]; exact each i hi
      refine ⟨(List.range n).map fun i => if h : i < n then Classical.choose (each' i h) else false, by simp, .inr ⟨g, off, rfl, fun j hj => ?_⟩⟩
      simp at hj
      have e : ((List.range n).map fun i => if h : i < n then Classical.choose (each' i h) else false).getD j false = Classical.choose (each' j hj) := by
        simp [List.getD, List.getElem?_range hj, hj]
      rw [e]
      exact Classical.choose_spec (each' j hj)

theorem own : ownKnob Yba.prog.godebug = none := by kernel_rfl
theorem laidOut : laidOutB Yba.prog = true := by kernel_rfl

set_option maxRecDepth 100000 in
theorem closeLaw_lifted (os : Os) (started : os.Started) (H : Type) (enc : TypeId × Value → H) :
    ReturnsInHanded {} Yba.checked os 3 .any (Rows.lawS0527ACloseSpec.pre6 enc Yba.prog Yba.f3 Rows.lawS0527ACloseRow.domain false) (Rows.lawS0527ACloseSpec.post enc Yba.prog Yba.f3 false true false false) := by
  refine returnsInHanded_of_change (C := Yba.checked) own started (by kernel_rfl) Yba.func3
    (ChangeSpec.witness6 (enc := enc) (C := Yba.checked) false ⟨#[], #[.slice none 0 0, .int .i64 0, .slice none 0 0, .slice none 0 0, .int .u8 0, .int .u8 0], []⟩ 8 (by kernel_rfl) (by kernel_rfl) (by kernel_rfl) (by kernel_rfl)) ?_
  intro W base args ds gs before hval0 hW hcnd _
  have hval : ∀ (j : Nat) t v, Yba.f3.params[j]? = some t → args[j]? = some v → Value.okWide Yba.prog W .any base t v := hval0
  have hW' := hW
  obtain ⟨p, q, hA0, hV, rfl, hfz, hnd⟩ := hW
  have hA : DataW.TrodAll enc Yba.prog W 0 (fun _ => true) true Yba.f3.params.toList args.toList ds p := hA0
  rw [Yba.params3] at hA hval
  obtain ⟨v0, vs0, d0, ds0, p0, q0, hargs, rfl, rfl, h0, r0⟩ := trodAll_cons hA
  obtain ⟨v1, vs1, d1, ds1, p1, q1, rfl, rfl, rfl, h1, r1⟩ := trodAll_cons r0
  obtain ⟨v2, vs2, d2, ds2, p2, q2, rfl, rfl, rfl, h2, r2⟩ := trodAll_cons r1
  obtain ⟨v3, vs3, d3, ds3, p3, q3, rfl, rfl, rfl, h3, r3⟩ := trodAll_cons r2
  obtain ⟨v4, vs4, d4, ds4, p4, q4, rfl, rfl, rfl, h4, r4⟩ := trodAll_cons r3
  obtain ⟨v5, vs5, d5, ds5, p5, q5, rfl, rfl, rfl, h5, r5⟩ := trodAll_cons r4
  obtain ⟨rfl, rfl, rfl⟩ := trodAll_nil r5
  obtain rfl : args = #[v0, v1, v2, v3, v4, v5] := by cases args; simp_all
  obtain ⟨rfl, rfl⟩ := trodVars_none hV
  obtain ⟨a0, len0, cap0, rfl⟩ := okWide_slice Yba.underlying22 (hval 0 22 v0 rfl rfl)
  have lt0 : ∀ x ∈ p0, x.block < W.heap.size := by obtain ⟨m, hm⟩ := h0; exact DataW.trod_lt m _ _ _ hm
  obtain ⟨a1, rfl, rfl, rfl, w1⟩ := open_int Yba.underlying3 (hval 1 3 v1 rfl rfl) h1
  obtain ⟨a2, len2, cap2, rfl⟩ := okWide_slice Yba.underlying23 (hval 2 23 v2 rfl rfl)
  have lt2 : ∀ x ∈ p2, x.block < W.heap.size := by obtain ⟨m, hm⟩ := h2; exact DataW.trod_lt m _ _ _ hm
  obtain ⟨a3, len3, cap3, rfl⟩ := okWide_slice Yba.underlying23 (hval 3 23 v3 rfl rfl)
  have lt3 : ∀ x ∈ p3, x.block < W.heap.size := by obtain ⟨m, hm⟩ := h3; exact DataW.trod_lt m _ _ _ hm
  obtain ⟨a4, rfl, rfl, rfl, w4⟩ := open_int Yba.underlying5 (hval 4 5 v4 rfl rfl) h4
  obtain ⟨a5, rfl, rfl, rfl, w5⟩ := open_int Yba.underlying5 (hval 5 5 v5 rfl rfl) h5
  obtain ⟨hc2, l2, hl2, hb2⟩ := bools_of h2
  obtain ⟨hc3, l3, hl3, hb3⟩ := bools_of h3
  clear hA0 hval0
  refine (law_walk a0 len0 cap0 a1 a2 a3 len2 cap2 len3 cap3 l2 l3 a4 a5 W hl2 hl3 hc2 hc3 (bounds_u8 w4).1 (bounds_u8 w4).2 (bounds_u8 w5).1 (bounds_u8 w5).2 hb2 hb3).mono fun e W' ⟨he, bel⟩ => ?_
  subst he
  exact ⟨_, rfl, _, _, _, [], _, [], hW', trodAll_mk1 (shut_bool Yba.underlying4 _),
    (trodAll_cons_mk (Below.trod laidOut (by kernel_rfl) (of_decide_eq_true (by kernel_rfl)) h0 bel lt0) (trodAll_cons_mk (shut_int Yba.underlying3 w1)
      (trodAll_cons_mk (Below.trod laidOut (by kernel_rfl) (of_decide_eq_true (by kernel_rfl)) h2 bel lt2) (trodAll_cons_mk (Below.trod laidOut (by kernel_rfl) (of_decide_eq_true (by kernel_rfl)) h3 bel lt3)
        (trodAll_cons_mk (shut_int Yba.underlying5 w4) (trodAll_cons_mk (shut_int Yba.underlying5 w5) trodAll_mk0)))))), rfl, bel.frame _, fun h => by cases h⟩

theorem closeLaw_holds : Rows.LawS0527ACloseSaid :=
  OpenClaim.holds_of_wide 3 Yba.f3 rfl rfl rfl rfl rfl rfl rfl ⟨rfl, rfl, rfl, rfl, rfl⟩ rfl rfl rfl rfl rfl (by kernel_rfl) Yba.func3 (by kernel_rfl)
    (of_decide_eq_true (by kernel_rfl)) (by unfold Func.isWrapper; first | (rw [if_pos (by decide +kernel)]; kernel_rfl) | (rw [if_neg (by decide +kernel)]; exact ⟨rfl, rfl⟩))
    (fun os started H enc _ => closeLaw_lifted os started H enc)

end Go.Proofs.Ybulkjwu
