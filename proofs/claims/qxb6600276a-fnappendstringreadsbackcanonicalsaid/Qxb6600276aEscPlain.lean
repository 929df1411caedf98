/-
  Plain functions: what 'appendString' writes, byte by byte. No Go in sight.
-/
import Derived.Test.Qxb6600276aRow
namespace Go.Proofs.Qxb6600276a
open Go.RowKit

def hexd (d : Int) : Int := if d < 10 then 48 + d else 87 + d
/-- What is written for one byte. -/
def escB (c : Int) : List Int :=
  if c = 34 then [92, 34] else if c = 92 then [92, 92]
  else if c = 8 then [92, 98] else if c = 9 then [92, 116] else if c = 10 then [92, 110] else if c = 12 then [92, 102] else if c = 13 then [92, 114]
  else if c < 32 then [92, 117, 48, 48, hexd (c / 16), hexd (c % 16)] else [c]
def escL : List Int → List Int
  | [] => []
  | c :: l => escB c ++ escL l
/-- A string's bytes as numbers. -/
def bytesOf (s : ByteArray) : List Int := s.data.toList.map fun b => (b.toNat : Int)
/-- What is appended for s. -/
def esc (l : List Int) : List Int := 34 :: (escL l ++ [34])

theorem escL_append (a b : List Int) : escL (a ++ b) = escL a ++ escL b := by
  induction a with
  | nil => rfl
  | cons c a ih => simp [escL, ih]
theorem escB_bd (c : Int) : 1 ≤ (escB c).length ∧ (escB c).length ≤ 6 := by
  unfold escB; repeat' split
  all_goals simp
theorem escL_bd (l : List Int) : l.length ≤ (escL l).length ∧ (escL l).length ≤ 6 * l.length := by
  induction l with
  | nil => simp [escL]
  | cons c l ih =>
    have := escB_bd c
    simp only [escL, List.length_append, List.length_cons]
    omega

theorem bytesOf_length (s : ByteArray) : (bytesOf s).length = s.size := by simp [bytesOf]
theorem bytesOf_getD (s : ByteArray) (k : Nat) (h : k < s.size) : (bytesOf s).getD k 0 = (s[k].toNat : Int) := by
  have h' : k < s.data.size := h
  simp only [bytesOf, List.getD, List.getElem?_map, Array.getElem?_toList, Array.getElem?_eq_getElem h', Option.map_some, Option.getD_some]
  rfl
theorem bytesOf_bd (s : ByteArray) : ∀ c ∈ bytesOf s, 0 ≤ c ∧ c ≤ 255 := by
  intro c hc
  simp only [bytesOf, List.mem_map] at hc
  obtain ⟨b, _, rfl⟩ := hc
  have := b.toNat_lt
  omega

theorem take_snoc' (A : List Int) (k : Nat) (h : k < A.length) : A.take (k + 1) = A.take k ++ [A.getD k 0] := by
  rw [List.take_succ_eq_append_getElem h]; simp [List.getD, h]

/-- The row behind k rounds. -/
def cellsAt (zs L : List Int) (k : Nat) : List Value := (zs ++ 34 :: escL (L.take k)).map (Value.int .u8)

theorem cellsAt_zero (zs L : List Int) : cellsAt zs L 0 = zs.map (Value.int .u8) ++ [.int .u8 34] := by simp [cellsAt, escL]
theorem cellsAt_succ (zs L : List Int) (k : Nat) (h : k < L.length) : cellsAt zs L (k + 1) = cellsAt zs L k ++ (escB (L.getD k 0)).map (Value.int .u8) := by
  unfold cellsAt
  rw [take_snoc' L k h, escL_append]
  simp [escL]
theorem cellsAt_end (zs L : List Int) : cellsAt zs L L.length ++ [.int .u8 34] = (zs ++ esc L).map (Value.int .u8) := by
  simp [cellsAt, esc]
theorem cellsAt_bd (zs L : List Int) (k : Nat) (h : k ≤ L.length) : (cellsAt zs L k).length ≤ zs.length + 1 + 6 * k := by
  have := (escL_bd (L.take k)).2
  simp only [cellsAt, List.length_map, List.length_append, List.length_cons]
  simp only [List.length_take] at this
  omega

end Go.Proofs.Qxb6600276a
