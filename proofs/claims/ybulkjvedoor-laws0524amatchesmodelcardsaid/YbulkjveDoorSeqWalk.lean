/-
  LawS0524ASequence: the walk.
-/
import Derived.Test.YbulkjveDoorSplit
namespace Go.Proofs.YbulkjveDoor
open Go.RowKit Go.Maps Go.WideMaps
set_option linter.unusedSimpArgs false
set_option linter.unusedVariables false

/-- A struct as '&expositionLines{types: m}' lays it. -/
def linesObj (mb : Nat) : Obj := .cells #[.map (some mb), .slice none 0 0, .slice none 0 0, .int .i64 0, .float .f64 0, .int .i64 0, .bool false, .slice none 0 0, .slice none 0 0, .int .u64 0, .int .i64 0, .int .i64 0, .int .i64 0,
  .slice none 0 0, .slice none 0 0, .string ⟨#[]⟩, .string ⟨#[]⟩, .string ⟨#[]⟩, .bool false] 41

theorem st_new {X : World} {B L mb : Nat} {look : ByteArray → ByteArray} (hL : X.heap[L]? = some (linesObj mb)) : St X B L mb look (.slice none 0 0) ByteArray.empty false := by
  unfold linesObj at hL
  have cc : ∀ o, X.cell? ⟨L, o, none⟩ = _ := fun o => cell_of_row X L o _ 41 (0, 0) hL
  exact ⟨cc 0, cc 13, ⟨_, cc 14, fun h => by cases h⟩, ⟨_, cc 15, fun h => by cases h⟩, ⟨_, cc 16, fun h => by cases h⟩, ⟨_, cc 17⟩, cc 18, fun o => frozen_of_row X L o _ 41 hL, World.ownsRow_nil X B 5 1, fun _ => rfl, Nat.zero_le _⟩

/-- All that the checks ask, of the world behind the two names. -/
theorem ready {w wr w1 : World} {D : DataW Unit} {n : Nat} (hG : ∃ t fr, w.heap[0]? = some (.cells partsArr t fr)) (hown : wr.ownsMap Ybad.prog 9 (plainElem (H := Unit) Ybad.prog 26) w.heap.size n D) (hnx : Below w.heap.size w wr)
    (hB1 : Below (wr.heap.size + 1) (wr.alloc (linesObj w.heap.size)) w1) :
    ∃ look, Env w1 w1.heap.size wr.heap.size w.heap.size look ∧ St w1 w1.heap.size wr.heap.size w.heap.size look (.slice none 0 0) ByteArray.empty false := by
  obtain ⟨look, hlook⟩ := mapIs_of_own hown
  obtain ⟨t, fr, hp⟩ := hG
  have h0 : 0 < w.heap.size := (Array.getElem?_eq_some_iff.1 hp).1
  have hlt := hown.lt
  have hsz : wr.heap.size + 1 ≤ w1.heap.size := by have := hB1.size; simpa using this
  have blk : ∀ k, k < wr.heap.size → w1.heap[k]? = wr.heap[k]? := fun k hk => (hB1.block k (by omega)).trans (Below.heap_alloc wr _ k hk)
  refine ⟨look, ⟨by omega, by omega, by omega, by omega, Nat.le_refl _, ⟨t, fr, ?_⟩, hlook.of_block (blk _ hlt)⟩, st_new ?_⟩
  · rw [blk 0 (by omega), hnx.block 0 h0]
    exact hp
  · rw [hB1.block _ (by omega), heap_alloc_new]

/-- What the walk is told of a slice of strings that came in. -/
def IsStrs (w : World) (a : Option Addr) (len : Nat) : Prop :=
  len = 0 ∨ ∃ b off, a = some ⟨b, off, none⟩ ∧ b < w.heap.size ∧ ∀ j, j < len → ∃ s : ByteArray, s.size ≤ maxLen ∧ w.cell? ⟨b, off + j, none⟩ = some (.string s)

set_option maxHeartbeats 1000000 in
theorem seq_some (A C : ByteArray) (sa sb : Int) (b off len cap : Nat) (w : World) (hA : A.size ≤ 1024) (hC : C.size ≤ 1024) (h1 : 0 ≤ sa) (h2 : sa ≤ 255) (h3 : 0 ≤ sb) (h4 : sb ≤ 255) (hl : len ≤ 1024)
    (hG : ∃ t fr, w.heap[0]? = some (.cells partsArr t fr)) (hb : b < w.heap.size) (hT : ∀ j, j < len → ∃ s : ByteArray, s.size ≤ maxLen ∧ w.cell? ⟨b, off + j, none⟩ = some (.string s)) :
    Calls Ybad.prog 4 #[.string A, .string C, .int .u8 sa, .int .u8 sb, .slice (some ⟨b, off, none⟩) len cap] w fun e w' => e = .returned (.bool true) ∧ Below w.heap.size w w' := by
  have hmm := @run_makeMap Ybad.prog
  go_enter Ybad.func4, Ybad.ntmps4
  go_wp2
  go_loopw [33] (fun i wr => ∃ k : Nat, k ≤ len ∧ i = .int .i64 k ∧ (∃ D, wr.ownsMap Ybad.prog 9 (plainElem (H := Unit) Ybad.prog 26) w.heap.size k D) ∧ Below w.heap.size w wr) (fun i _ => len - (intOf i).toNat)
  case atStart => exact ⟨0, Nat.zero_le _, rfl, ⟨_, World.ownsMap_made _ _ _ _⟩, (Below.refl _ _).alloc (Nat.le_refl _) _⟩
  case round =>
    obtain ⟨k, hk, rfl, ⟨D, hown⟩, hnx⟩ := hrel
    by_cases hlt : k < len
    · obtain ⟨s, hs, hcell⟩ := hT k hlt
      have hcx : wr.cell? ⟨b, off + k, none⟩ = some (.string s) := (hnx.cell (by exact hb)).trans hcell
      have hkey : keyOf Ybad.prog 9 (.string s) = some (.string s.data.toList) := keyOf_string_mk Ybad.underlying9 hs
      clear hT hcell
      go_wp2_with (first
        | (at_mapUpdate; refine wpList_mapUpdate_own _ rfl _ _ _ 25 rfl 9 26 law Ybad.underlying25 _ w.heap.size k _ rfl hown (by unfold maxLen; omega) _ _ _ rfl rfl hkey _ [] (plainElem_string Ybad.underlying26 (by decide)) ?_)
        | go_in)
      intro w1 hown1 hgrow1
      have R2 := hnx.grown hgrow1 hnx.size (fun j hj => by cases hj; exact Nat.le_refl _)
      clear hown hnx hgrow1 hcx hkey
      go_wp2
      go_roundw
      case rel => exact ⟨k + 1, by omega, by go_num, ⟨_, hown1⟩, R2⟩
      case measure => simp [intOf]; omega
    · clear hT
      go_wp2_with fail
      refine (name_any A sa _ hA h1 h2).mono ?_
      rintro e w1 ⟨g1, c1, rfl, hN1, hg1, hB1⟩
      simp only [World.size_alloc] at hg1 hB1
      go_wp2_with fail
      refine (name_any C sb _ hC h3 h4).mono ?_
      rintro e w2 ⟨g2, c2, rfl, hN2, hg2, hB2⟩
      have hB12 := hB1.trans (hB2.mono (by have := hB1.size; simpa using this))
      obtain ⟨look, hE, hS⟩ := ready hG hown hnx hB12
      have hN1' : IsName w2 g1 c1 (nameOf A sa) := ⟨hN1.cells.of_block (hB2.block g1 hN1.lt), hN1.cap, Nat.lt_of_lt_of_le hN1.lt hB2.size, hN1.small⟩
      have hs1 : wr.heap.size + 1 ≤ w1.heap.size := by have := hB1.size; simpa using this
      have hl1 := hN1'.lt
      have hl2 := hN2.lt
      have hnB : Below w.heap.size w w2 := hnx.trans ((((Below.refl w.heap.size _).alloc hnx.size _)).trans (hB12.mono (by have := hnx.size; omega)))
      have hLw : w.heap.size ≤ wr.heap.size := hnx.size
      have hLlt := hE.L_lt
      clear hN1 hB1 hB2 hB12 hown hnx
      go_wp2_with fail
      refine (check_any hE hS hN1' hl1 (by omega)).mono ?_
      rintro e w3 ⟨rfl, nv3, hS3, hK3⟩
      go_wp2_with fail
      refine (check_any (hE.kept hK3) hS3 (hN2.kept hK3 hl2 (by omega)) hl2 (by omega)).mono ?_
      rintro e w4 ⟨rfl, nv4, hS4, hK4⟩
      go_wp2_with fail
      refine (check_any ((hE.kept hK3).kept hK4) hS4 ((hN1'.kept hK3 hl1 (by omega)).kept hK4 hl1 (by omega)) hl1 (by omega)).mono ?_
      rintro e w5 ⟨rfl, nv5, hS5, hK5⟩
      go_wp2
      go_ret
      exact ⟨rfl, hnB.trans (((hK3.trans hK4).trans hK5).below hLw (by omega))⟩

set_option maxHeartbeats 1000000 in
/-- No strings: a nil slice too. -/
theorem seq_none (A C : ByteArray) (sa sb : Int) (a : Option Addr) (cap : Nat) (w : World) (hA : A.size ≤ 1024) (hC : C.size ≤ 1024) (h1 : 0 ≤ sa) (h2 : sa ≤ 255) (h3 : 0 ≤ sb) (h4 : sb ≤ 255)
    (hG : ∃ t fr, w.heap[0]? = some (.cells partsArr t fr)) :
    Calls Ybad.prog 4 #[.string A, .string C, .int .u8 sa, .int .u8 sb, .slice a 0 cap] w fun e w' => e = .returned (.bool true) ∧ Below w.heap.size w w' := by
  have hmm := @run_makeMap Ybad.prog
  go_enter Ybad.func4, Ybad.ntmps4
  go_wp2
  go_loopw [33] (fun i wr => i = .int .i64 0 ∧ (∃ D, wr.ownsMap Ybad.prog 9 (plainElem (H := Unit) Ybad.prog 26) w.heap.size 0 D) ∧ Below w.heap.size w wr) (fun i _ => 0)
  case atStart => exact ⟨rfl, ⟨_, World.ownsMap_made _ _ _ _⟩, (Below.refl _ _).alloc (Nat.le_refl _) _⟩
  case round =>
      obtain ⟨rfl, ⟨D, hown⟩, hnx⟩ := hrel
      go_wp2_with fail
      refine (name_any A sa _ hA h1 h2).mono ?_
      rintro e w1 ⟨g1, c1, rfl, hN1, hg1, hB1⟩
      simp only [World.size_alloc] at hg1 hB1
      go_wp2_with fail
      refine (name_any C sb _ hC h3 h4).mono ?_
      rintro e w2 ⟨g2, c2, rfl, hN2, hg2, hB2⟩
      have hB12 := hB1.trans (hB2.mono (by have := hB1.size; simpa using this))
      obtain ⟨look, hE, hS⟩ := ready hG hown hnx hB12
      have hN1' : IsName w2 g1 c1 (nameOf A sa) := ⟨hN1.cells.of_block (hB2.block g1 hN1.lt), hN1.cap, Nat.lt_of_lt_of_le hN1.lt hB2.size, hN1.small⟩
      have hs1 : wr.heap.size + 1 ≤ w1.heap.size := by have := hB1.size; simpa using this
      have hl1 := hN1'.lt
      have hl2 := hN2.lt
      have hnB : Below w.heap.size w w2 := hnx.trans ((((Below.refl w.heap.size _).alloc hnx.size _)).trans (hB12.mono (by have := hnx.size; omega)))
      have hLw : w.heap.size ≤ wr.heap.size := hnx.size
      have hLlt := hE.L_lt
      clear hN1 hB1 hB2 hB12 hown hnx
      go_wp2_with fail
      refine (check_any hE hS hN1' hl1 (by omega)).mono ?_
      rintro e w3 ⟨rfl, nv3, hS3, hK3⟩
      go_wp2_with fail
      refine (check_any (hE.kept hK3) hS3 (hN2.kept hK3 hl2 (by omega)) hl2 (by omega)).mono ?_
      rintro e w4 ⟨rfl, nv4, hS4, hK4⟩
      go_wp2_with fail
      refine (check_any ((hE.kept hK3).kept hK4) hS4 ((hN1'.kept hK3 hl1 (by omega)).kept hK4 hl1 (by omega)) hl1 (by omega)).mono ?_
      rintro e w5 ⟨rfl, nv5, hS5, hK5⟩
      go_wp2
      go_ret
      exact ⟨rfl, hnB.trans (((hK3.trans hK4).trans hK5).below hLw (by omega))⟩


set_option maxHeartbeats 1000000 in
theorem seq_long (A C : ByteArray) (sa sb : Int) (a : Option Addr) (len cap : Nat) (w : World) (h : ¬ (A.size ≤ 1024 ∧ C.size ≤ 1024 ∧ len ≤ 1024)) :
    Calls Ybad.prog 4 #[.string A, .string C, .int .u8 sa, .int .u8 sb, .slice a len cap] w fun e w' => e = .returned (.bool true) ∧ Below w.heap.size w w' := by
  by_cases hA : A.size ≤ 1024
  · by_cases hC : C.size ≤ 1024
    · have hl : 1024 < len := by
        rcases Nat.lt_or_ge 1024 len with h1 | h1
        · exact h1
        · exact absurd ⟨hA, hC, h1⟩ h
      clear h
      go_enter Ybad.func4, Ybad.ntmps4
      go_wp2
      go_ret
      exact ⟨rfl, Below.refl _ _⟩
    · have hC' : 1024 < C.size := by omega
      clear h hC
      go_enter Ybad.func4, Ybad.ntmps4
      go_wp2
      go_ret
      exact ⟨rfl, Below.refl _ _⟩
  · have hA' : 1024 < A.size := by omega
    clear h hA
    go_enter Ybad.func4, Ybad.ntmps4
    go_wp2
    go_ret
    exact ⟨rfl, Below.refl _ _⟩

theorem seq_walk (A C : ByteArray) (sa sb : Int) (a : Option Addr) (len cap : Nat) (w : World) (h1 : 0 ≤ sa) (h2 : sa ≤ 255) (h3 : 0 ≤ sb) (h4 : sb ≤ 255) (hT : IsStrs w a len)
    (hG : ∃ t fr, w.heap[0]? = some (.cells partsArr t fr)) :
    Calls Ybad.prog 4 #[.string A, .string C, .int .u8 sa, .int .u8 sb, .slice a len cap] w fun e w' => e = .returned (.bool true) ∧ Below w.heap.size w w' := by
  by_cases h : A.size ≤ 1024 ∧ C.size ≤ 1024 ∧ len ≤ 1024
  · rcases hT with rfl | ⟨b, off, rfl, hb, hT⟩
    · exact seq_none A C sa sb _ cap w h.1 h.2.1 h1 h2 h3 h4 hG
    · exact seq_some A C sa sb b off len cap w h.1 h.2.1 h1 h2 h3 h4 h.2.2 hG hb hT
  · exact seq_long A C sa sb a len cap w h

end Go.Proofs.YbulkjveDoor
