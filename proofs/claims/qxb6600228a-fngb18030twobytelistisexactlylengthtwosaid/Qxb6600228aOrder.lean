/-
  Plain laws on the order of the two-byte codes.
-/
import Derived.Test.Qxb6600228aPlain
namespace Go.Proofs.Qxb6600228a
open Go.RowKit

theorem two_toList (f s : Nat) : (two f s).toList = [UInt8.ofNat f, UInt8.ofNat s] := by rw [ByteArray.toList_eq]; rfl
theorem two_size (f s : Nat) : (two f s).size = 2 := rfl
theorem code_size (k : Nat) : (codeOf k).size = 2 := rfl

/-- The number by which the two-byte strings are ordered. -/
def val (f s : Nat) : Nat := f * 256 + s

theorem u8_lt (a b : Nat) (ha : a < 256) (hb : b < 256) : (UInt8.ofNat a < UInt8.ofNat b) ↔ a < b := by
  rw [UInt8.lt_iff_toNat_lt, UInt8.toNat_ofNat', UInt8.toNat_ofNat']; omega
theorem u8_eq (a b : Nat) (ha : a < 256) (hb : b < 256) : (UInt8.ofNat a = UInt8.ofNat b) ↔ a = b := by
  rw [← UInt8.toNat_inj, UInt8.toNat_ofNat', UInt8.toNat_ofNat']; omega

theorem two_less (f s f' s' : Nat) (hf : f < 256) (hs : s < 256) (hf' : f' < 256) (hs' : s' < 256) :
    Op.bytesLess (two f s).toList (two f' s').toList = decide (val f s < val f' s') := by
  rw [two_toList, two_toList, Bool.eq_iff_iff, decide_eq_true_iff]
  simp only [Op.bytesLess, Bool.or_eq_true, Bool.and_eq_true, decide_eq_true_eq, beq_iff_eq, Bool.or_false, Bool.and_false, u8_lt f f' hf hf', u8_lt s s' hs hs', u8_eq f f' hf hf']
  unfold val
  omega

theorem two_eq (f s f' s' : Nat) (hf : f < 256) (hs : s < 256) (hf' : f' < 256) (hs' : s' < 256) :
    ((two f s).toList == (two f' s').toList) = decide (val f s = val f' s') := by
  rw [two_toList, two_toList, Bool.eq_iff_iff, decide_eq_true_iff]
  simp only [beq_iff_eq, List.cons.injEq, and_true, u8_eq f f' hf hf', u8_eq s s' hs hs']
  unfold val
  omega

/-- The number of code k. -/
def cval (k : Nat) : Nat := val (129 + k / 190) (tl (k % 190))
theorem tl_bd (j : Nat) (h : j < 190) : 64 ≤ tl j ∧ tl j ≤ 254 := by unfold tl; split <;> omega
theorem cval_mono (i j : Nat) (h : i < j) : cval i < cval j := by
  have a := tl_bd (i % 190) (Nat.mod_lt _ (by omega))
  have b := tl_bd (j % 190) (Nat.mod_lt _ (by omega))
  unfold cval val
  by_cases e : i / 190 = j / 190
  · have : tl (i % 190) < tl (j % 190) := by
      have hr : i % 190 < j % 190 := by omega
      unfold tl; split <;> split <;> omega
    omega
  · have : i / 190 < j / 190 := by omega
    omega
theorem code_less (i f s : Nat) (hi : i < 23940) (hf : f < 256) (hs : s < 256) : Op.bytesLess (codeOf i).toList (two f s).toList = decide (cval i < val f s) := by
  have b := tl_bd (i % 190) (Nat.mod_lt _ (by omega))
  exact two_less _ _ _ _ (by omega) (by omega) hf hs
theorem code_eq (i f s : Nat) (hi : i < 23940) (hf : f < 256) (hs : s < 256) : ((codeOf i).toList == (two f s).toList) = decide (cval i = val f s) := by
  have b := tl_bd (i % 190) (Nat.mod_lt _ (by omega))
  exact two_eq _ _ _ _ (by omega) (by omega) hf hs
theorem code_next (i : Nat) (hi : i + 1 < 23940) : Op.bytesLess (codeOf i).toList (codeOf (i + 1)).toList = true := by
  have b := tl_bd ((i + 1) % 190) (Nat.mod_lt _ (by omega))
  have h := code_less i (129 + (i + 1) / 190) (tl ((i + 1) % 190)) (by omega) (by omega) (by omega)
  exact h.trans (decide_eq_true (cval_mono i (i + 1) (by omega)))

end Go.Proofs.Qxb6600228a
