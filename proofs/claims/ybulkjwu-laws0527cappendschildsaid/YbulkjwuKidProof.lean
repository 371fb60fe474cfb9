/-
  LawS0527CAppendsChild: all ways together; the row.
-/
import Derived.Test.YbulkjwuKidT
import Derived.Test.YbulkjwuKidS
import Derived.ProofKit
import Derived.OpenShut
import Derived.ShutString
import Derived.ChangeOld
import Derived.Below
namespace Go.Proofs.Ybulkjwu.lawS0527CAppendsChild
open Go.ChangeShapes Go.WideShapes Go.ChangeAt Go.RowKit
open Go.ChangeMaps (open_string shut_string)
set_option linter.unusedSimpArgs false
set_option linter.unusedVariables false

theorem own : ownKnob Yba.prog.godebug = none := by kernel_rfl

theorem walk (a0 : Int) (a1 : Int) (a2 : Int) (a3 : Int) (w0 : (Lit.int .u8 a0).wf = true) (w1 : (Lit.int .u8 a1).wf = true) (w2 : (Lit.int .u8 a2).wf = true) (w3 : (Lit.int .u8 a3).wf = true) (w : World) :
    Calls Yba.prog 4 #[.int .u8 a0, .int .u8 a1, .int .u8 a2, .int .u8 a3] w fun e w' => e = .returned (.bool true) ∧ Below w.heap.size w w' := by
  obtain ⟨b00, b01⟩ := bounds_u8 w0
  obtain ⟨b10, b11⟩ := bounds_u8 w1
  obtain ⟨b20, b21⟩ := bounds_u8 w2
  obtain ⟨b30, b31⟩ := bounds_u8 w3
  obtain ⟨n0, rfl⟩ : ∃ n : Nat, a0 = n := ⟨a0.toNat, by omega⟩
  obtain ⟨n1, rfl⟩ : ∃ n : Nat, a1 = n := ⟨a1.toNat, by omega⟩
  obtain ⟨n3, rfl⟩ : ∃ n : Nat, a3 = n := ⟨a3.toNat, by omega⟩
  have hk : (n3 : Int).tmod 60 = ((n3 % 60 : Nat) : Int) := by rw [Int.tmod_eq_emod_of_nonneg (by omega)]; omega
  have hs : a2.tmod 4 = a2 % 4 := Int.tmod_eq_emod_of_nonneg b20
  have h4 : a2 % 4 = 0 ∨ a2 % 4 = 1 ∨ a2 % 4 = 2 ∨ a2 % 4 = 3 := by omega
  rcases h4 with h | h | h | h
  · exact law_S n0 n1 n3 (n3 % 60) 0 a2 (by omega) (by omega) (by omega) b20 b21 (by omega) (by rw [hs, h]; rfl) (by omega) hk (fun _ => rfl) w
  · exact law_T n0 n1 n3 (n3 % 60) 1 a2 (by omega) (by omega) (by omega) b20 b21 ⟨#[115, 116, 97, 116, 101, 109, 101, 110, 116, 115]⟩ (by kernel_rfl) (by omega) (by rw [hs, h]; rfl) (by omega) hk (fun _ => rfl) w
  · exact law_T n0 n1 n3 (n3 % 60) 2 a2 (by omega) (by omega) (by omega) b20 b21 ⟨#[]⟩ (by kernel_rfl) (by omega) (by rw [hs, h]; rfl) (by omega) hk (fun _ => rfl) w
  · exact law_T n0 n1 n3 (n3 % 60) 3 a2 (by omega) (by omega) (by omega) b20 b21 ⟨#[110, 97, 109, 101]⟩ (by kernel_rfl) (by omega) (by rw [hs, h]; rfl) (by omega) hk (fun _ => rfl) w

/-! ### THE ROW's STEP: WRITTEN OUT: LEAVE IT -/
set_option maxRecDepth 100000 in
theorem lifted (os : Os) (started : os.Started) (H : Type) (enc : TypeId × Value → H) :
    ReturnsInHanded {} Yba.checked os 4 .any (Rows.lawS0527CAppendsChildSpec.pre6 enc Yba.prog Yba.f4 Rows.lawS0527CAppendsChildRow.domain false) (Rows.lawS0527CAppendsChildSpec.post enc Yba.prog Yba.f4 false true false false) := by
  refine returnsInHanded_of_change (C := Yba.checked) own started (by kernel_rfl) Yba.func4
    (ChangeSpec.witness6 (enc := enc) (C := Yba.checked) false ⟨#[], #[.int .u8 0, .int .u8 0, .int .u8 0, .int .u8 0], []⟩ 8 (by kernel_rfl) (by kernel_rfl) (by kernel_rfl) (by kernel_rfl)) ?_
  intro W base args ds gs before hval0 hW hcnd _
  have hval : ∀ (j : Nat) t v, Yba.f4.params[j]? = some t → args[j]? = some v → Value.okWide Yba.prog W .any base t v := hval0
  have hW' := hW
  obtain ⟨p, q, hA0, hV, rfl, hfz, hnd⟩ := hW
  have hA : DataW.TrodAll enc Yba.prog W 0 (fun _ => true) true Yba.f4.params.toList args.toList ds p := hA0
  rw [Yba.params4] at hA hval
  obtain ⟨v0, vs0, d0, ds0, p0, q0, hargs, rfl, rfl, h0, r0⟩ := trodAll_cons hA
  obtain ⟨v1, vs1, d1, ds1, p1, q1, rfl, rfl, rfl, h1, r1⟩ := trodAll_cons r0
  obtain ⟨v2, vs2, d2, ds2, p2, q2, rfl, rfl, rfl, h2, r2⟩ := trodAll_cons r1
  obtain ⟨v3, vs3, d3, ds3, p3, q3, rfl, rfl, rfl, h3, r3⟩ := trodAll_cons r2
  obtain ⟨rfl, rfl, rfl⟩ := trodAll_nil r3
  obtain rfl : args = #[v0, v1, v2, v3] := by cases args; simp_all
  obtain ⟨rfl, rfl⟩ := trodVars_none hV
  obtain ⟨a0, rfl, rfl, rfl, w0⟩ := open_int Yba.underlying5 (hval 0 5 v0 rfl rfl) h0
  obtain ⟨a1, rfl, rfl, rfl, w1⟩ := open_int Yba.underlying5 (hval 1 5 v1 rfl rfl) h1
  obtain ⟨a2, rfl, rfl, rfl, w2⟩ := open_int Yba.underlying5 (hval 2 5 v2 rfl rfl) h2
  obtain ⟨a3, rfl, rfl, rfl, w3⟩ := open_int Yba.underlying5 (hval 3 5 v3 rfl rfl) h3
  clear hA0 hval0
  refine (walk a0 a1 a2 a3 w0 w1 w2 w3 W).mono fun e W' ⟨he, bel⟩ => ?_
  subst he
  exact ⟨_, rfl, _, _, _, [], _, [], hW', trodAll_mk1 (shut_bool Yba.underlying4 _),
    (trodAll_cons_mk (shut_int Yba.underlying5 w0) (trodAll_cons_mk (shut_int Yba.underlying5 w1) (trodAll_cons_mk (shut_int Yba.underlying5 w2) (trodAll_cons_mk (shut_int Yba.underlying5 w3) trodAll_mk0)))), rfl, bel.frame _, fun h => by cases h⟩

theorem over : Rows.lawS0527CAppendsChildRow.holds Yba.pinned (OpenSpec.ofChange Rows.lawS0527CAppendsChildSpec) :=
  OpenClaim.holds_of_wide 4 Yba.f4 rfl rfl rfl rfl rfl rfl rfl ⟨rfl, rfl, rfl, rfl, rfl⟩ rfl rfl rfl rfl rfl (by kernel_rfl) Yba.func4 (by kernel_rfl)
    (of_decide_eq_true (by kernel_rfl)) (by unfold Func.isWrapper; first | (rw [if_pos (by decide +kernel)]; kernel_rfl) | (rw [if_neg (by decide +kernel)]; exact ⟨rfl, rfl⟩))
    (fun os started H enc _ => lifted os started H enc)

/-- ████ THE STATEMENT ████ -/
theorem proved : Rows.LawS0527CAppendsChildSaid :=
  over
end Go.Proofs.Ybulkjwu.lawS0527CAppendsChild

namespace Go.Proofs.Ybulkjwu
theorem appendsChild_holds : Rows.LawS0527CAppendsChildSaid := lawS0527CAppendsChild.proved
end Go.Proofs.Ybulkjwu
