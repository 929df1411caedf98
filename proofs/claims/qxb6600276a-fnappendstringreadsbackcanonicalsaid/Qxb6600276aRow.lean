/-
  A slice of integers as the walks of this seat see it; the order on lists of code units. No Go function walked here.
-/
import Derived.Test.Qxb6600276aRows
import Derived.WalkKit
import Derived.WalkSpells
namespace Go.Proofs.Qxb6600276a
open Go.RowKit

/-- THE SLICE v READS AS THE NUMBERS zs IN w: its length is theirs; where there is one, the cells lie in a row at a plain address. -/
def Row (k : IntKind) (w : World) (v : Value) (zs : List Int) : Prop :=
  ∃ a cap, v = .slice a zs.length cap ∧ (zs ≠ [] → ∃ b off, a = some ⟨b, off, none⟩ ∧ ∀ i, i < zs.length → w.cell? ⟨b, off + i, none⟩ = some (.int k (zs.getD i 0)))

theorem Row.later {k : IntKind} {w w' : World} {v : Value} {zs : List Int} (h : Row k w v zs) (hb : Below w.heap.size w w') : Row k w' v zs := by
  obtain ⟨a, cap, hv, hc⟩ := h
  refine ⟨a, cap, hv, fun hne => ?_⟩
  obtain ⟨b, off, ha, hcell⟩ := hc hne
  exact ⟨b, off, ha, fun i hi => cell_later hb (hcell i hi)⟩

theorem Row.empty (k : IntKind) (w : World) (a : Option Addr) (cap : Nat) : Row k w (.slice a 0 cap) [] := ⟨a, cap, rfl, fun h => absurd rfl h⟩

theorem ret_bool {a b : Bool} (h : a = b) : Ending.returned (.bool a) = .returned (.bool b) := by rw [h]
theorem ret_int {k : IntKind} {a b : Int} (h : a = b) : Ending.returned (.int k a) = .returned (.int k b) := by rw [h]

/-- The order of code units: what 'lessUnits' answers. -/
def ltU : List Int → List Int → Bool
  | _, [] => false
  | [], _ :: _ => true
  | a :: x, b :: y => if a = b then ltU x y else decide (a < b)

theorem ltU_nil (A : List Int) : ltU A [] = false := by cases A <;> rfl
theorem nil_ltU (B : List Int) : ltU [] B = decide (0 < B.length) := by cases B <;> simp [ltU]
theorem drop_cons (A : List Int) (k : Nat) (h : k < A.length) : A.drop k = A.getD k 0 :: A.drop (k + 1) := by
  rw [List.drop_eq_getElem_cons h]; simp [List.getD, h]
theorem ltU_same (A B : List Int) (k : Nat) (ha : k < A.length) (hb : k < B.length) (h : A.getD k 0 = B.getD k 0) : ltU (A.drop k) (B.drop k) = ltU (A.drop (k + 1)) (B.drop (k + 1)) := by
  rw [drop_cons A k ha, drop_cons B k hb, ltU, if_pos h]
theorem ltU_other (A B : List Int) (k : Nat) (ha : k < A.length) (hb : k < B.length) (h : ¬ A.getD k 0 = B.getD k 0) : ltU (A.drop k) (B.drop k) = decide (A.getD k 0 < B.getD k 0) := by
  rw [drop_cons A k ha, drop_cons B k hb, ltU, if_neg h]
theorem ltU_end (A B : List Int) (k : Nat) (ha : k ≤ A.length) (hb : k ≤ B.length) (h : ¬ (k < A.length ∧ k < B.length)) : ltU (A.drop k) (B.drop k) = decide (A.length < B.length) := by
  by_cases e : k = B.length
  · rw [List.drop_eq_nil_of_le (show B.length ≤ k by omega), ltU_nil, decide_eq_false (by omega)]
  · have : k = A.length := by omega
    rw [List.drop_eq_nil_of_le (show A.length ≤ k by omega), nil_ltU, Bool.eq_iff_iff]
    simp only [List.length_drop, decide_eq_true_eq]
    omega

end Go.Proofs.Qxb6600276a
