/-
  What the reader's struct holds between two questions; what stands around it.
-/
import Derived.Test.YbulkjveDoorName
import Derived.Maps.StringElems
namespace Go.Proofs.YbulkjveDoor
open Go.RowKit Go.Maps Go.WideMaps
set_option linter.unusedSimpArgs false
set_option linter.unusedVariables false

def bytesV (s : ByteArray) : List Value := s.data.toList.map fun b => Value.int .u8 b.toNat

/-- All below B but block L is as it was. -/
structure Kept (B L : Nat) (w w' : World) : Prop where
  os : w'.os = w.os
  tape : w'.tape = w.tape
  output : w'.output = w.output
  size : w.heap.size ≤ w'.heap.size
  block : ∀ k, k < B → k ≠ L → w'.heap[k]? = w.heap[k]?

theorem Kept.refl (B L : Nat) (w : World) : Kept B L w w := ⟨rfl, rfl, rfl, Nat.le_refl _, fun _ _ _ => rfl⟩
theorem Kept.trans {B L : Nat} {a b c : World} (h : Kept B L a b) (k : Kept B L b c) : Kept B L a c :=
  ⟨k.os.trans h.os, k.tape.trans h.tape, k.output.trans h.output, Nat.le_trans h.size k.size, fun i hi hl => (k.block i hi hl).trans (h.block i hi hl)⟩
theorem Kept.of_below {B L : Nat} {w w' : World} (h : Below B w w') : Kept B L w w' := ⟨h.os, h.tape, h.output, h.size, fun k hk _ => h.block k hk⟩
theorem Kept.below {B L C : Nat} {w w' : World} (h : Kept B L w w') (hC : C ≤ L) (hB : C ≤ B) : Below C w w' := ⟨h.os, h.tape, h.output, h.size, fun k hk => h.block k (by omega) (by omega)⟩
theorem Kept.setCell {B L : Nat} {a w : World} (h : Kept B L a w) (o : Nat) (u : Value) : Kept B L a (w.setCell ⟨L, o, none⟩ u) :=
  h.trans ⟨rfl, rfl, rfl, by simp [World.setCell], fun k _ hl => Below.heap_setCell _ _ _ _ hl⟩
theorem Kept.drewN {B L : Nat} {a w : World} (h : Kept B L a w) (n : Nat) : Kept B L a (w.drewN n) := h.trans ⟨rfl, rfl, rfl, Nat.le_refl _, fun _ _ _ => rfl⟩
theorem Kept.drew {B L : Nat} {a w : World} (h : Kept B L a w) : Kept B L a w.drew := h.trans ⟨rfl, rfl, rfl, Nat.le_refl _, fun _ _ _ => rfl⟩

/-- The family that the struct holds. -/
def famOf : Value → ByteArray → Option Nat → Value
  | .slice a _ c, s, some i => .slice a (s.size - pl i) c
  | _, _, _ => .slice none 0 0

def partsArr : Array Value := #[.string ⟨#[95, 98, 117, 99, 107, 101, 116]⟩, .string ⟨#[95, 99, 111, 117, 110, 116]⟩, .string ⟨#[95, 115, 117, 109]⟩, .string ⟨#[95, 99, 114, 101, 97, 116, 101, 100]⟩]

theorem law : Keyed Ybad.prog 9 := string_keyed Ybad.underlying9
theorem zero26 (w : World) : (zeroValue 26).run Ybad.prog w = .ok (.string ⟨#[]⟩) w := by kernel_rfl

/-- Block mb is a map that answers by 'look'. -/
def MapIs (w : World) (mb : Nat) (look : ByteArray → ByteArray) : Prop :=
  ∃ n D, w.ownsMap Ybad.prog 9 (plainElem (H := Unit) Ybad.prog 26) mb n D ∧ ∀ k : ByteArray, k.size ≤ maxLen → D.atKey (.string k.data.toList) (.lit (.string [])) = .lit (.string (look k).data.toList)

theorem MapIs.run {w : World} {mb : Nat} {look : ByteArray → ByteArray} (h : MapIs w mb look) (k : ByteArray) (hk : k.size ≤ maxLen) :
    (Instr.lookup 25 (.map (some mb)) (.string k) false).run Ybad.prog w = .ok (.string (look k)) w := by
  obtain ⟨n, D, hown, hat⟩ := h
  obtain ⟨v, ps, hrun, hv⟩ := hown.lookup law Ybad.underlying25 (zero26 w) (plainElem_string (H := Unit) Ybad.underlying26 (s := ⟨#[]⟩) (Nat.zero_le _)) (keyOf_string_mk Ybad.underlying9 hk)
  obtain ⟨c, rfl, hc, _⟩ := plainElem_string_inv Ybad.underlying26 hv
  have e := congrArg Prod.fst hc
  have e2 := (hat k hk).symm.trans e
  have e3 : (look k).data.toList = c.data.toList := by injection e2 with e2; injection e2
  rw [hrun, ba_ext e3]

theorem mapIs_of_own {w : World} {mb n : Nat} {D : DataW Unit} (h : w.ownsMap Ybad.prog 9 (plainElem (H := Unit) Ybad.prog 26) mb n D) : ∃ look, MapIs w mb look := by
  have ex : ∀ k : ByteArray, ∃ s : ByteArray, k.size ≤ maxLen → D.atKey (.string k.data.toList) (.lit (.string [])) = .lit (.string s.data.toList) := by
    intro k
    by_cases hk : k.size ≤ maxLen
    · obtain ⟨v, ps, hrun, hv⟩ := h.lookup law Ybad.underlying25 (zero26 w) (plainElem_string (H := Unit) Ybad.underlying26 (s := ⟨#[]⟩) (Nat.zero_le _)) (keyOf_string_mk Ybad.underlying9 hk)
      obtain ⟨c, rfl, hc, _⟩ := plainElem_string_inv Ybad.underlying26 hv
      exact ⟨c, fun _ => congrArg Prod.fst hc⟩
    · exact ⟨ByteArray.empty, fun h => absurd h hk⟩
  exact ⟨fun k => Classical.choose (ex k), n, D, h, fun k hk => Classical.choose_spec (ex k) hk⟩

theorem MapIs.of_block {w w' : World} {mb : Nat} {look : ByteArray → ByteArray} (h : MapIs w mb look) (hb : w'.heap[mb]? = w.heap[mb]?) : MapIs w' mb look := by
  obtain ⟨n, D, ⟨es, clock, hbb, F, hs, hD⟩, hat⟩ := h
  exact ⟨n, D, ⟨es, clock, hb.trans hbb, F, hs, hD⟩, hat⟩

/-- What stands around the struct. -/
structure Env (w : World) (B L mb : Nat) (look : ByteArray → ByteArray) : Prop where
  L_lt : L < B
  L_pos : 0 ≠ L
  mb_lt : mb < B
  mb_ne : mb ≠ L
  size : B ≤ w.heap.size
  parts : ∃ t fr, w.heap[0]? = some (.cells partsArr t fr)
  map : MapIs w mb look

theorem Env.kept {w w' : World} {B L mb : Nat} {look : ByteArray → ByteArray} (h : Env w B L mb look) (hk : Kept B L w w') : Env w' B L mb look := by
  obtain ⟨t, fr, hp⟩ := h.parts
  exact ⟨h.L_lt, h.L_pos, h.mb_lt, h.mb_ne, Nat.le_trans h.size hk.size, ⟨t, fr, (hk.block 0 (by have := h.L_lt; omega) h.L_pos).trans hp⟩, h.map.of_block (hk.block mb h.mb_lt h.mb_ne)⟩

/-- The struct: what was asked last (s0, if kn), and what was made of it. -/
structure St (w : World) (B L mb : Nat) (look : ByteArray → ByteArray) (nv : Value) (s0 : ByteArray) (kn : Bool) : Prop where
  c0 : w.cell? ⟨L, 0, none⟩ = some (.map (some mb))
  c13 : w.cell? ⟨L, 13, none⟩ = some nv
  c14 : ∃ f, w.cell? ⟨L, 14, none⟩ = some f ∧ (kn = true → f = famOf nv s0 (firstHit s0))
  c15 : ∃ p, w.cell? ⟨L, 15, none⟩ = some (.string p) ∧ (kn = true → p = outP (firstHit s0))
  c16 : ∃ t, w.cell? ⟨L, 16, none⟩ = some (.string t) ∧ (kn = true → t = look s0)
  c17 : ∃ t, w.cell? ⟨L, 17, none⟩ = some (.string t)
  c18 : w.cell? ⟨L, 18, none⟩ = some (.bool kn)
  fr : ∀ o, w.frozen? ⟨L, o, none⟩ = false
  own : w.ownsRow B 5 1 nv s0.size (bytesV s0)
  fresh : kn = false → nv = .slice none 0 0
  small : s0.size ≤ 4096

theorem IsName.kept {w w' : World} {B L g cap : Nat} {s : ByteArray} (h : IsName w g cap s) (hk : Kept B L w w') (hg : g < B) (hgL : g ≠ L) : IsName w' g cap s :=
  ⟨h.cells.of_block (hk.block g hg hgL), h.cap, Nat.lt_of_lt_of_le h.lt hk.size, h.small⟩

/-- An owned row of bytes reads as them. -/
theorem own_reads {w : World} {B : Nat} {nv : Value} {s : ByteArray} (h : w.ownsRow B 5 1 nv s.size (bytesV s)) : Reads w nv s := by
  rcases h.2 with ⟨rfl, hn⟩ | ⟨q, c, cur, rfl, hq, hb, hn, hcm, hcs, htake⟩
  · have : s = ByteArray.empty := ba_ext (List.eq_nil_of_length_eq_zero hn)
    rw [this]
    exact reads_nil w 0 0
  · have hc : Cells w q 0 s.data.toList := cells_of_row hb (rest := cur.toList.drop s.size) (by
      have := List.take_append_drop s.size cur.toList
      rw [Nat.mul_one] at htake
      rw [htake] at this
      exact this.symm)
    have := hc.reads s.size c rfl
    rwa [show (⟨s.data.toList.toArray⟩ : ByteArray) = s from ba_ext (by simp)] at this

end Go.Proofs.YbulkjveDoor
