/-
  Plain functions of this seat: the list of two-byte codes. No Go in sight.
-/
import Derived.WalkKit
namespace Go.Proofs.Qxb6600228a
open Go.RowKit

/-- The j-th byte of 0x40..0xfe that is not 0x7f. -/
def tl (j : Nat) : Nat := if j < 63 then 64 + j else 65 + j
/-- The two bytes f, s as a string. -/
def two (f s : Nat) : ByteArray := ⟨#[UInt8.ofNat f, UInt8.ofNat s]⟩
/-- Code number k. -/
def codeOf (k : Nat) : ByteArray := two (129 + k / 190) (tl (k % 190))
/-- The first n codes. -/
def codes (n : Nat) : List Value := (List.range n).map fun k => .string (codeOf k)
/-- How many codes have been gathered when the loops stand at (f, s). -/
def cnt (f s : Nat) : Nat := (f - 129) * 190 + (if s ≤ 127 then s - 64 else s - 65)

theorem codes_length (n : Nat) : (codes n).length = n := by simp [codes]
theorem codes_succ (n : Nat) : codes (n + 1) = codes n ++ [.string (codeOf n)] := by
  simp [codes, List.range_succ]
theorem codes_get (n k : Nat) (h : k < n) : (codes n)[k]? = some (.string (codeOf k)) := by
  simp [codes, h]

theorem cnt_start : cnt 129 64 = 0 := by decide
theorem cnt_row (f : Nat) (hf : 129 ≤ f) : cnt f 255 = cnt (f + 1) 64 := by
  simp only [cnt]; rw [if_neg (by omega), if_pos (by omega)]; omega
theorem cnt_end : cnt 255 64 = 23940 := by decide
theorem cnt_skip (f : Nat) : cnt f 128 = cnt f 127 := by
  simp only [cnt]; rw [if_neg (by omega), if_pos (by omega)]
theorem cnt_succ (f s : Nat) (hs : 64 ≤ s) (h7 : s ≠ 127) : cnt f (s + 1) = cnt f s + 1 := by
  simp only [cnt]; split <;> split <;> omega
theorem cnt_code (f s : Nat) (hf : 129 ≤ f) (hs : 64 ≤ s) (hs2 : s ≤ 254) (h7 : s ≠ 127) : codeOf (cnt f s) = two f s := by
  unfold codeOf
  by_cases h : s ≤ 127
  · have e : cnt f s = (f - 129) * 190 + (s - 64) := by simp only [cnt]; rw [if_pos h]
    have e1 : cnt f s / 190 = f - 129 := by omega
    have e2 : cnt f s % 190 = s - 64 := by omega
    rw [e1, e2]; unfold tl; rw [if_pos (by omega), show 129 + (f - 129) = f from by omega, show 64 + (s - 64) = s from by omega]
  · have e : cnt f s = (f - 129) * 190 + (s - 65) := by simp only [cnt]; rw [if_neg h]
    have e1 : cnt f s / 190 = f - 129 := by omega
    have e2 : cnt f s % 190 = s - 65 := by omega
    rw [e1, e2]; unfold tl; rw [if_neg (by omega), show 129 + (f - 129) = f from by omega, show 65 + (s - 65) = s from by omega]
theorem cnt_le (f s : Nat) (hf : f ≤ 255) (hs : s ≤ 255) : cnt f s ≤ 24200 := by
  simp only [cnt]; split <;> omega

end Go.Proofs.Qxb6600228a
