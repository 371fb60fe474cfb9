/-
  LawS0528BReset: the row.
-/
import Derived.Test.YbulkjxiLaw
import Derived.ProofKit
import Derived.OpenShut
import Derived.ChangeOld
import Derived.Below
import Derived.Deep.Strs
namespace Go.Proofs.Ybulkjxi
open Go.ChangeShapes Go.WideShapes Go.ChangeAt Go.RowKit
set_option linter.unusedSimpArgs false
set_option linter.unusedVariables false

set_option maxRecDepth 100000 in
set_option maxHeartbeats 1000000 in
theorem law_long (a : Option Addr) (n c : Nat) (w : World) (h : 1024 < n) :
    Calls Yba.prog 3 #[.slice a n c] w fun e w' => e = .returned (.bool true) ∧ Below w.heap.size w w' := by
  go_enter Yba.func3, Yba.ntmps3
  go_wp2
  go_ret
  exact ⟨rfl, Below.refl _ _⟩

/-- The operations that came in, as the walk is told of them. -/
theorem ops_of {H : Type} {enc : TypeId × Value → H} {W : World} {a : Option Addr} {n c : Nat} {d : DataW H} {p : List MemPlace} (h : DataW.Trod enc Yba.prog W 0 (fun _ => true) true 22 (.slice a n c) d p) :
    0 < n → ∃ g off, a = some ⟨g, off, none⟩ ∧ ∀ j, j < n → ∃ t k v : Int, W.cell? ⟨g, off + j * 3, none⟩ = some (.int .u8 t) ∧ W.cell? ⟨g, off + j * 3 + 1, none⟩ = some (.int .u8 k) ∧ W.cell? ⟨g, off + j * 3 + 2, none⟩ = some (.int .i64 v) ∧
      0 ≤ t ∧ t ≤ 255 ∧ 0 ≤ k ∧ k ≤ 255 ∧ (Lit.int .i64 v).wf = true := by
  intro hpos
  obtain ⟨fuel, hf⟩ := h
  have hc27 : Yba.prog.cellsOf 27 = 3 := by kernel_rfl
  have hc5 : Yba.prog.cellsOf 5 = 1 := by kernel_rfl
  have hc3 : Yba.prog.cellsOf 3 = 1 := by kernel_rfl
  rcases DataW.trod_slice Yba.underlying22 hf with ⟨hcs, _⟩ | ⟨x, len, cap, elems, rest, m, _, hcs, _, hb, hl, hm, hlen, hel, hsp, hns⟩
  · simp [Value.cells] at hcs
    omega
  · simp [Value.cells] at hcs
    obtain ⟨rfl, rfl, rfl⟩ := hcs
    have each : ∀ i, i < n → ∃ t k v : Int, W.cell? ((x.add (i * 3)).add 0) = some (.int .u8 t) ∧ W.cell? ((x.add (i * 3)).add 1) = some (.int .u8 k) ∧ W.cell? ((x.add (i * 3)).add 2) = some (.int .i64 v) ∧
        (Lit.int .u8 t).wf = true ∧ (Lit.int .u8 k).wf = true ∧ (Lit.int .i64 v).wf = true := by
      intro i hi
      have h1 := hel i hi
      rw [List.getElem?_eq_getElem (by omega), hc27, Option.bind_eq_some_iff] at h1
      obtain ⟨cs', hcs', hy⟩ := h1
      obtain ⟨y0, y1, y2, m', _, _, t0, t1, t2⟩ := Deep.trod_struct3 Yba.underlying27 hy
      obtain ⟨_, hl3, hcell⟩ := World.cells?_some hcs'
      match cs', hl3 with
      | [v0, v1, v2], _ =>
        obtain ⟨t, ht, _, wt⟩ := DataW.trod_int Yba.underlying5 t0
        obtain ⟨k, hk, _, wk⟩ := DataW.trod_int Yba.underlying5 t1
        obtain ⟨v, hv, _, wv⟩ := DataW.trod_int Yba.underlying3 t2
        simp [hc5, hc3] at ht hk hv
        subst ht hk hv
        exact ⟨t, k, v, by simpa using hcell 0 (by omega), by simpa using hcell 1 (by omega), by simpa using hcell 2 (by omega), wt, wk, wv⟩
    obtain ⟨g, off, spot⟩ := x
    obtain ⟨t0, k0, v0, e0, _⟩ := each 0 hpos
    have hspot : spot = none := by simpa [Addr.add] using World.cell?_spot e0
    subst hspot
    refine ⟨g, off, rfl, fun j hj => ?_⟩
    obtain ⟨t, k, v, e1, e2, e3, wt, wk, wv⟩ := each j hj
    rw [add_plain, add_plain] at e1 e2 e3
    exact ⟨t, k, v, e1, e2, e3, (bounds_u8 wt).1, (bounds_u8 wt).2, (bounds_u8 wk).1, (bounds_u8 wk).2, wv⟩

theorem own : ownKnob Yba.prog.godebug = none := by kernel_rfl
theorem laidOut : laidOutB Yba.prog = true := by kernel_rfl

set_option maxRecDepth 100000 in
theorem resetLaw_lifted (os : Os) (started : os.Started) (H : Type) (enc : TypeId × Value → H) :
    ReturnsInHanded {} Yba.checked os 3 .any (Rows.lawS0528BResetSpec.pre6 enc Yba.prog Yba.f3 Rows.lawS0528BResetRow.domain false) (Rows.lawS0528BResetSpec.post enc Yba.prog Yba.f3 false true false false) := by
  refine returnsInHanded_of_change (C := Yba.checked) own started (by kernel_rfl) Yba.func3
    (ChangeSpec.witness6 (enc := enc) (C := Yba.checked) false ⟨#[], #[.slice none 0 0], []⟩ 8 (by kernel_rfl) (by kernel_rfl) (by kernel_rfl) (by kernel_rfl)) ?_
  intro W base args ds gs before hval0 hW hcnd _
  have hval : ∀ (j : Nat) t v, Yba.f3.params[j]? = some t → args[j]? = some v → Value.okWide Yba.prog W .any base t v := hval0
  have hW' := hW
  obtain ⟨p, q, hA0, hV, rfl, hfz, hnd⟩ := hW
  have hA : DataW.TrodAll enc Yba.prog W 0 (fun _ => true) true Yba.f3.params.toList args.toList ds p := hA0
  rw [Yba.params3] at hA hval
  obtain ⟨v0, vs0, d0, ds0, p0, q0, hargs, rfl, rfl, h0, r0⟩ := trodAll_cons hA
  obtain ⟨rfl, rfl, rfl⟩ := trodAll_nil r0
  obtain rfl : args = #[v0] := by cases args; simp_all
  obtain ⟨rfl, rfl⟩ := trodVars_none hV
  obtain ⟨a0, len0, cap0, rfl⟩ := okWide_slice Yba.underlying22 (hval 0 22 v0 rfl rfl)
  have lt0 : ∀ x ∈ p0, x.block < W.heap.size := by obtain ⟨m, hm⟩ := h0; exact DataW.trod_lt m _ _ _ hm
  have walk : Calls Yba.prog 3 #[.slice a0 len0 cap0] W fun e w' => e = .returned (.bool true) ∧ Below W.heap.size W w' := by
    rcases Nat.lt_or_ge 1024 len0 with hlen | hlen
    · exact law_long a0 len0 cap0 W hlen
    · exact law_walk a0 len0 cap0 W hlen (ops_of h0)
  clear hA0 hval0
  refine walk.mono fun e W' ⟨he, bel⟩ => ?_
  subst he
  exact ⟨_, rfl, _, _, _, [], _, [], hW', trodAll_mk1 (shut_bool Yba.underlying4 _),
    trodAll_cons_mk (Below.trod laidOut (by kernel_rfl) (of_decide_eq_true (by kernel_rfl)) h0 bel lt0) trodAll_mk0, rfl, bel.frame _, fun h => by cases h⟩

theorem resetLaw_holds : Rows.LawS0528BResetSaid :=
  OpenClaim.holds_of_wide 3 Yba.f3 rfl rfl rfl rfl rfl rfl rfl ⟨rfl, rfl, rfl, rfl, rfl⟩ rfl rfl rfl rfl rfl (by kernel_rfl) Yba.func3 (by kernel_rfl)
    (of_decide_eq_true (by kernel_rfl)) (by unfold Func.isWrapper; first | (rw [if_pos (by decide +kernel)]; kernel_rfl) | (rw [if_neg (by decide +kernel)]; exact ⟨rfl, rfl⟩))
    (fun os started H enc _ => resetLaw_lifted os started H enc)

end Go.Proofs.Ybulkjxi
