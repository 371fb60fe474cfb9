/-
  The base of both laws: a []byte that reads as a string; bytes.Equal's contract; the plain words (the parts, which part a name ends in).
-/
import Derived.Test.YbulkjveDoorRows
import Derived.WalkKit
import Derived.WalkSpells
import Derived.WalkLawsBesides
import Derived.Laws.BytesArg
import Derived.Lib.ConvBytes
import Derived.Lib.Strings
namespace Go.Proofs.YbulkjveDoor
open Go.RowKit
set_option linter.unusedSimpArgs false
set_option linter.unusedVariables false

/-- The value v reads, in w, as the bytes s: 'string(v)' is s, in whatever string type. -/
def Reads (w : World) (v : Value) (s : ByteArray) : Prop :=
  ∀ dst, Ybad.prog.underlying dst = some .string → (convert 23 dst v).run Ybad.prog w = .ok (.string s) w

theorem equal_any (v1 v2 : Value) (s1 s2 : ByteArray) (w : World) (h1 : Reads w v1 s1) (h2 : Reads w v2 s2) :
    Calls Ybad.prog 8 #[v1, v2] w fun e w' => e = .returned (.bool (s1.toList == s2.toList)) ∧ w' = w := by
  have c1 := h1 9 Ybad.underlying9
  have c2 := h2 9 Ybad.underlying9
  go_enter Ybad.func8, Ybad.ntmps8
  go_wp2
  go_ret
  exact ⟨rfl, rfl⟩

theorem equal_any' (v1 v2 : Value) (s1 s2 : ByteArray) (w : World) (h1 : Reads w v1 s1) (h2 : Reads w v2 s2) :
    Calls Ybad.prog 8 #[v1, v2] w fun e w' => e = .returned (.bool (s1.toList == s2.toList)) ∧ w = w' :=
  (equal_any v1 v2 s1 s2 w h1 h2).mono fun _ _ h => ⟨h.1, h.2.symm⟩

/-- The cells of block g from 'off' on hold the bytes l. -/
def Cells (w : World) (g off : Nat) (l : List UInt8) : Prop :=
  ∀ j, j < l.length → w.cell? ⟨g, off + j, none⟩ = some (.int .u8 (l.getD j 0).toNat)

theorem Cells.of_block {w w' : World} {g off : Nat} {l : List UInt8} (h : Cells w g off l) (hb : w'.heap[g]? = w.heap[g]?) : Cells w' g off l :=
  fun j hj => (World.cell?_of_block (a := ⟨g, off + j, none⟩) hb).trans (h j hj)

theorem Cells.drop {w : World} {g off : Nat} {l : List UInt8} (h : Cells w g off l) (lo : Nat) : Cells w g (off + lo) (l.drop lo) := by
  intro j hj
  have := h (lo + j) (by simp at hj; omega)
  rw [Nat.add_assoc]
  rw [this]
  simp [List.getD]

theorem Cells.take {w : World} {g off : Nat} {l : List UInt8} (h : Cells w g off l) (n : Nat) : Cells w g off (l.take n) := by
  intro j hj
  simp at hj
  have := h j (by omega)
  rw [this]
  simp [List.getD, List.getElem?_take, show j < n by omega]

theorem strOfNums_bytes (l : List UInt8) : strOfNums (l.map fun b => (b.toNat : Int)) = ⟨l.toArray⟩ := by
  unfold strOfNums
  congr 2
  rw [List.map_map]
  refine (List.map_congr_left ?_).trans (List.map_id l)
  intro b _
  simp

theorem Cells.reads {w : World} {g off : Nat} {l : List UInt8} (h : Cells w g off l) (n cap : Nat) (hn : l.length = n) : Reads w (.slice (some ⟨g, off, none⟩) n cap) ⟨l.toArray⟩ := by
  intro dst hd
  have := run_convert_bytes_arg (P := Ybad.prog) w 23 5 Ybad.underlying23 Ybad.underlying5 g off n cap (l.map fun b => (b.toNat : Int)) (by simpa using hn)
    (fun i hi => by
      rw [h i (by omega)]
      simp only [List.getD, List.getElem?_map]
      cases hl : l[i]? <;> simp) dst hd
  rw [strOfNums_bytes] at this
  exact this

theorem ba_ext {a b : ByteArray} (h : a.data.toList = b.data.toList) : a = b := by
  obtain ⟨⟨a⟩⟩ := a
  obtain ⟨⟨b⟩⟩ := b
  simp at h
  subst h
  rfl

theorem reads_nil (w : World) (n c : Nat) : Reads w (.slice none n c) ByteArray.empty :=
  fun dst hd => run_convert_bytes_nil (P := Ybad.prog) w 23 5 Ybad.underlying23 Ybad.underlying5 n c dst hd

/-- An append whose run is at hand, at the operation. -/
theorem wpList_append_run {P : Program} {ops : Array Oper} {rest : List Oper} {o : Oper} {a : Act} {w : World} {Q : Exit → Act → World → Prop} (hgd : o.guard = none) (s x : Operand) (t u : TypeId)
    (ho : o.op = .call { callee := .builtin .append, args := #[s, x], argTypes := #[t, u] }) (vs vx : Value) (hs : a.eval s = vs) (hx : a.eval x = vx) (v' : Value) (w' : World)
    (hr : (Builtin.append_ #[t, u] o.type #[vs, vx]).run P w = .ok v' w') (h : wpList P ops Q rest (a.put o.dst v') w') : wpList P ops Q (o :: rest) a w := by
  refine wpList_plain hgd fun K' hK' => ?_
  unfold Oper.wp
  simp [execOp, ho, resolve, invoke, builtin, hs, hx, hr, Result.andThen]
  exact hK' _ _ h

/-! ### The plain words -/
def partL : Nat → List UInt8
  | 0 => [95, 98, 117, 99, 107, 101, 116]
  | 1 => [95, 99, 111, 117, 110, 116]
  | 2 => [95, 115, 117, 109]
  | _ => [95, 99, 114, 101, 97, 116, 101, 100]
def pl (i : Nat) : Nat := (partL i).length
def partS (i : Nat) : ByteArray := ⟨(partL i).toArray⟩

/-- The name s ends in part i, and is longer. -/
def hitB (s : ByteArray) (i : Nat) : Bool := decide (pl i < s.size) && ((s.extract (s.size - pl i) s.size).toList == partL i)

/-- The first part that s ends in. -/
def firstHit (s : ByteArray) : Option Nat :=
  if hitB s 0 = true then some 0 else if hitB s 1 = true then some 1 else if hitB s 2 = true then some 2 else if hitB s 3 = true then some 3 else none

/-- What the law's model answers: u is the type of the whole name. -/
def ans (u s : ByteArray) : Option Nat := if u.toList.isEmpty = true then firstHit s else none

def outF (g off cap : Nat) (s : ByteArray) : Option Nat → Value
  | none => .slice none 0 0
  | some i => .slice (some ⟨g, off, none⟩) (s.size - pl i) cap
def outP : Option Nat → ByteArray
  | none => ⟨#[]⟩
  | some i => partS i
def outT (g off cap : Nat) (s : ByteArray) (r : Option Nat) : Value := .tuple #[outF g off cap s r, .string (outP r), .bool r.isSome]

theorem firstHit_at {s : ByteArray} {k : Nat} (hk : k < 4) (hn : ∀ j, j < k → hitB s j = false) (h : hitB s k = true) : firstHit s = some k := by
  unfold firstHit
  match k, hk with
  | 0, _ => rw [if_pos h]
  | 1, _ => rw [if_neg (by simp [hn 0 (by omega)]), if_pos h]
  | 2, _ => rw [if_neg (by simp [hn 0 (by omega)]), if_neg (by simp [hn 1 (by omega)]), if_pos h]
  | 3, _ => rw [if_neg (by simp [hn 0 (by omega)]), if_neg (by simp [hn 1 (by omega)]), if_neg (by simp [hn 2 (by omega)]), if_pos h]

theorem firstHit_none {s : ByteArray} (hn : ∀ j, j < 4 → hitB s j = false) : firstHit s = none := by
  unfold firstHit
  simp [hn 0 (by omega), hn 1 (by omega), hn 2 (by omega), hn 3 (by omega)]

theorem firstHit_some {s : ByteArray} {i : Nat} (h : firstHit s = some i) : i < 4 ∧ hitB s i = true := by
  unfold firstHit at h
  split at h
  · cases h; exact ⟨by omega, by assumption⟩
  split at h
  · cases h; exact ⟨by omega, by assumption⟩
  split at h
  · cases h; exact ⟨by omega, by assumption⟩
  split at h
  · cases h; exact ⟨by omega, by assumption⟩
  · cases h

theorem hitB_mk {s : ByteArray} {i : Nat} (h : pl i < s.size) (h2 : ((s.extract (s.size - pl i) s.size).toList == partL i) = true) : hitB s i = true := by
  unfold hitB; rw [decide_eq_true h, h2]; rfl
theorem hitB_short {s : ByteArray} {i : Nat} (h : s.size ≤ pl i) : hitB s i = false := by
  unfold hitB; rw [decide_eq_false (by omega)]; rfl
theorem hitB_other {s : ByteArray} {i : Nat} (h2 : ((s.extract (s.size - pl i) s.size).toList == partL i) = false) : hitB s i = false := by
  unfold hitB; rw [h2]; simp
theorem hitB_lt {s : ByteArray} {i : Nat} (h : hitB s i = true) : pl i < s.size := by
  unfold hitB at h; simp at h; exact h.1
theorem below_succ {s : ByteArray} {k : Nat} (hn : ∀ j, j < k → hitB s j = false) (h : hitB s k = false) : ∀ j, j < k + 1 → hitB s j = false := by
  intro j hj
  by_cases e : j = k
  · subst e; exact h
  · exact hn j (by omega)

end Go.Proofs.YbulkjveDoor
