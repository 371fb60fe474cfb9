/-
  What the listed variable gives the walk; the witness's heap; the frame that both laws share.
-/
import Derived.Test.YbulkjveDoorSeqWalk
import Derived.ProofKit
import Derived.LaidMore
import Derived.OpenShut
import Derived.Stop.Joined
import Derived.ShutString
import Derived.ChangeVars
namespace Go.Proofs.YbulkjveDoor
open Go.ChangeShapes Go.WideShapes Go.ChangeAt Go.RowKit
set_option linter.unusedSimpArgs false
set_option linter.unusedVariables false

abbrev laidL : List (String × DataW Unit) := Rows.lawS0524ASequenceRow.laid
/-- The listed variable's name. -/
abbrev vName : String := Rows.lawS0524ASequenceSpec.vars.headD ""

theorem own : ownKnob Ybad.prog.godebug = none := by kernel_rfl
theorem laidOut : laidOutB Ybad.prog = true := by kernel_rfl
theorem gParts : Ybad.prog.globalNamed vName = some 0 := by kernel_rfl
theorem tParts : (Ybad.prog.globals[0]?).map (·.type) = some 46 := by kernel_rfl
theorem c46 : Ybad.prog.cellsOf 46 = 4 := by kernel_rfl
theorem c37 : Ybad.prog.cellsOf 37 = 1 := by kernel_rfl

theorem string_of_trod {H : Type} {enc : TypeId × Value → H} {P : Program} {w : World} {base : Nat} {sp : Nat → Bool} {held : Bool} {fuel : Nat} {t : TypeId} {c : Value} {y : DataW H × List MemPlace}
    (ht : P.underlying t = some .string) (h : DataW.trod enc P w base sp held fuel t [c] = some y) : ∃ s : ByteArray, c = .string s ∧ y = (.lit (.string s.data.toList), []) := by
  obtain ⟨s, h1, h2, _⟩ := DataW.trod_string ht h
  exact ⟨s, by simpa using h1, h2⟩

theorem cells_of_laid {W : World} (h : laidMetH Ybad.prog laidL W) : W.var? Ybad.prog vName = some partsArr := by
  rw [MakeChecks.laidMetH_plain _ _ _ (by kernel_rfl)] at h
  obtain ⟨ps, ⟨g, t, cs, fuel, p, q, hg, ht, hvar, hd, _, _⟩, _, _⟩ := h
  obtain rfl := Option.some.inj (gParts.symm.trans hg)
  obtain rfl := Option.some.inj (tParts.symm.trans ht)
  refine Eq.trans hvar ?_
  congr 1
  obtain ⟨l⟩ := cs
  cases fuel with
  | zero => simp [DataW.trod] at hd
  | succ fuel =>
    simp only [DataW.trod, Ybad.underlying46, c46, c37] at hd
    split at hd
    · rename_i hl
      obtain ⟨c0, c1, c2, c3, rfl⟩ : ∃ c0 c1 c2 c3, l = [c0, c1, c2, c3] := by
        match l, hl with
        | [a, b, c, d], _ => exact ⟨a, b, c, d, rfl⟩
      have e : List.range 4 = [0, 1, 2, 3] := rfl
      rw [e] at hd
      simp only [Option.map_eq_some_iff, List.mapM_cons, List.mapM_nil, Option.bind_eq_bind, Option.bind_eq_some_iff, Option.pure_def, Option.some.injEq] at hd
      obtain ⟨xs, ⟨y0, h0, _, ⟨y1, h1, _, ⟨y2, h2, _, ⟨y3, h3, _, rfl, rfl⟩, rfl⟩, rfl⟩, rfl⟩, hx⟩ := hd
      obtain ⟨n0, rfl, rfl⟩ := string_of_trod Ybad.underlying37 h0
      obtain ⟨n1, rfl, rfl⟩ := string_of_trod Ybad.underlying37 h1
      obtain ⟨n2, rfl, rfl⟩ := string_of_trod Ybad.underlying37 h2
      obtain ⟨n3, rfl, rfl⟩ := string_of_trod Ybad.underlying37 h3
      simp only [Rows.laid_example_com_quantilith_quantilith_seriesParts, Prod.mk.injEq, DataW.agg.injEq, List.map_cons, List.map_nil, List.cons.injEq, DataW.lit.injEq, Lit.string.injEq] at hx
      obtain ⟨⟨e0, e1, e2, e3, _⟩, _⟩ := hx
      have z0 : n0 = ⟨#[95, 98, 117, 99, 107, 101, 116]⟩ := ba_ext e0
      have z1 : n1 = ⟨#[95, 99, 111, 117, 110, 116]⟩ := ba_ext e1
      have z2 : n2 = ⟨#[95, 115, 117, 109]⟩ := ba_ext e2
      have z3 : n3 = ⟨#[95, 99, 114, 101, 97, 116, 101, 100]⟩ := ba_ext e3
      rw [z0, z1, z2, z3]
      rfl
    · cases hd

theorem row_of_var {W : World} (h : W.var? Ybad.prog vName = some partsArr) : ∃ t fr, W.heap[0]? = some (.cells partsArr t fr) := by
  simp only [World.var?, gParts, Option.bind_some] at h
  split at h
  · rename_i c t fr hb
    simp only [Option.some.injEq] at h
    subst h
    exact ⟨t, fr, hb⟩
  · cases h

/-- The table's datum over whatever tokens. -/
abbrev tableH {H : Type} : DataW H := .agg [.lit (.string [95, 98, 117, 99, 107, 101, 116]), .lit (.string [95, 99, 111, 117, 110, 116]), .lit (.string [95, 115, 117, 109]), .lit (.string [95, 99, 114, 101, 97, 116, 101, 100])]

theorem reads_table {H : Type} (enc : TypeId × Value → H) (W : World) (sp : Nat → Bool) : DataW.trod enc Ybad.prog W 0 sp true 3 46 partsArr.toList = some (tableH, []) := by kernel_rfl

/-- The door's own heap meets the condition: closed facts. -/
theorem door_met (os : Os) (args : Array Value) : laidMetH Ybad.prog laidL ((World.doorLaid Ybad.prog 400 os).forCall (fun _ _ => 0) ⟨#[], args, []⟩).memory :=
  laidMetH_of_parts3 (fuel := 8) (laidMet_of_run' 8 (by kernel_rfl) (by kernel_rfl)) (by kernel_rfl) (by kernel_rfl)

/-- A slice of strings that came in, as the walk is told of it. -/
theorem isStrs_of {H : Type} {enc : TypeId × Value → H} {W : World} {a : Option Addr} {len cap : Nat} {d : DataW H} {p : List MemPlace} (h : DataW.Trod enc Ybad.prog W 0 (fun _ => true) true 22 (.slice a len cap) d p) : IsStrs W a len := by
  obtain ⟨fuel, hf⟩ := h
  rcases open_strings Ybad.underlying22 Ybad.underlying9 (by kernel_rfl) hf with ⟨hcs, _⟩ | ⟨x, l, c, ss, hcs, _, hl, hm, hz, _, hcell, hwz⟩
  · simp [Value.cells] at hcs
    obtain ⟨rfl, rfl, rfl⟩ := hcs
    exact .inl rfl
  · simp [Value.cells] at hcs
    obtain ⟨rfl, rfl, rfl⟩ := hcs
    simp only [if_true] at hz
    rcases Nat.eq_zero_or_pos len with e0 | hpos
    · exact .inl e0
    · obtain ⟨b, off, spot⟩ := x
      have hspot : spot = none := by simpa [Addr.add] using World.cell?_spot (hcell 0 (by omega))
      subst hspot
      have hcell' : ∀ j, j < ss.length → W.cell? ⟨b, off + j, none⟩ = some (.string (ss.getD j ByteArray.empty)) := fun j hj => by rw [← add_plain]; exact hcell j hj
      refine .inr ⟨b, off, rfl, block_lt_of_cell (hcell' 0 (by omega)), fun j hj => ⟨ss.getD j ByteArray.empty, ?_, hcell' j (by omega)⟩⟩
      have hj2 : j < ss.length := by omega
      rw [List.getD, List.getElem?_eq_getElem hj2]
      exact hwz _ (List.getElem_mem hj2)

end Go.Proofs.YbulkjveDoor
