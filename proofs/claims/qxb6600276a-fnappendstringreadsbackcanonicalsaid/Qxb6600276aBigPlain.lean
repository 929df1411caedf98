/-
  Plain laws: two bytes a unit, high byte first; Go's order on those texts is the order of the units. Equality of units; trichotomy.
-/
import Derived.Test.Qxb6600276aRow
import Derived.Laws.BytesArg
namespace Go.Proofs.Qxb6600276a
open Go.RowKit

/-- Each unit as two bytes, high byte first. -/
def bigE : List Int → List Int
  | [] => []
  | x :: A => x / 256 :: x % 256 :: bigE A
/-- Each number is a code unit. -/
def Units (A : List Int) : Prop := ∀ x ∈ A, 0 ≤ x ∧ x ≤ 65535

theorem bigE_append (A B : List Int) : bigE (A ++ B) = bigE A ++ bigE B := by
  induction A with
  | nil => rfl
  | cons x A ih => simp [bigE, ih]
theorem bigE_length (A : List Int) : (bigE A).length = 2 * A.length := by
  induction A with
  | nil => rfl
  | cons x A ih => simp [bigE, ih]; omega

theorem take_snoc (A : List Int) (k : Nat) (h : k < A.length) : A.take (k + 1) = A.take k ++ [A.getD k 0] := by
  rw [List.take_succ_eq_append_getElem h]; simp [List.getD, h]

/-- The row behind k rounds. -/
def fill (A : List Int) (k : Nat) : List Value := (bigE (A.take k)).map (Value.int .u8) ++ List.replicate (2 * (A.length - k)) (.int .u8 0)

theorem fill_zero (A : List Int) : fill A 0 = List.replicate (2 * A.length) (.int .u8 0) := by simp [fill, bigE]
theorem fill_end (A : List Int) : fill A A.length = (bigE A).map (Value.int .u8) := by simp [fill]
theorem fill_length (A : List Int) (k : Nat) (h : k ≤ A.length) : (fill A k).length = 2 * A.length := by
  simp [fill, bigE_length]; omega
theorem fill_left (A : List Int) (k : Nat) (h : k ≤ A.length) : ((bigE (A.take k)).map (Value.int .u8)).length = 2 * k := by
  simp [bigE_length]; omega
theorem fill_at (A : List Int) (k j : Nat) (h : k ≤ A.length) (h1 : 2 * k ≤ j) (h2 : j < 2 * A.length) : (fill A k)[j]? = some (.int .u8 0) := by
  unfold fill
  rw [List.getElem?_append_right (by rw [fill_left A k h]; exact h1), fill_left A k h, List.getElem?_replicate, if_pos (by omega)]
theorem fill_step (A : List Int) (k : Nat) (h : k < A.length) :
    ((fill A k).set (2 * k) (.int .u8 (A.getD k 0 / 256))).set (2 * k + 1) (.int .u8 (A.getD k 0 % 256)) = fill A (k + 1) := by
  have hl := fill_left A k (by omega)
  unfold fill
  rw [show 2 * (A.length - k) = 2 * (A.length - (k + 1)) + 1 + 1 from by omega, List.replicate_succ, List.replicate_succ]
  rw [List.set_append_right _ _ (by omega), hl, Nat.sub_self, List.set_cons_zero]
  rw [List.set_append_right _ _ (by omega), hl, show 2 * k + 1 - 2 * k = 1 from by omega, List.set_cons_succ, List.set_cons_zero]
  rw [take_snoc A k h, bigE_append, List.map_append, List.append_assoc]
  rfl

theorem u8_lt (a b : Int) (ha : 0 ≤ a) (ha' : a ≤ 255) (hb : 0 ≤ b) (hb' : b ≤ 255) : (UInt8.ofNat a.toNat < UInt8.ofNat b.toNat) ↔ a < b := by
  rw [UInt8.lt_iff_toNat_lt, UInt8.toNat_ofNat', UInt8.toNat_ofNat']; omega
theorem u8_eq (a b : Int) (ha : 0 ≤ a) (ha' : a ≤ 255) (hb : 0 ≤ b) (hb' : b ≤ 255) : (UInt8.ofNat a.toNat = UInt8.ofNat b.toNat) ↔ a = b := by
  rw [← UInt8.toNat_inj, UInt8.toNat_ofNat', UInt8.toNat_ofNat']; omega

/-- THE PLAIN LAW: Go's order on the big-endian texts is the order of the units. -/
theorem big_less : ∀ (A B : List Int), Units A → Units B → Op.bytesLess ((bigE A).map fun n => UInt8.ofNat n.toNat) ((bigE B).map fun n => UInt8.ofNat n.toNat) = ltU A B
  | A, [], _, _ => by rw [ltU_nil]; cases A <;> simp [bigE, Op.bytesLess]
  | [], b :: B, _, _ => by simp [bigE, Op.bytesLess, ltU]
  | a :: A, b :: B, hA, hB => by
    have ih := big_less A B (fun x hx => hA x (List.mem_cons_of_mem _ hx)) (fun x hx => hB x (List.mem_cons_of_mem _ hx))
    have ha := hA a (List.mem_cons_self ..)
    have hb := hB b (List.mem_cons_self ..)
    have l1 := u8_lt (a / 256) (b / 256) (by omega) (by omega) (by omega) (by omega)
    have e1 := u8_eq (a / 256) (b / 256) (by omega) (by omega) (by omega) (by omega)
    have l2 := u8_lt (a % 256) (b % 256) (by omega) (by omega) (by omega) (by omega)
    have e2 := u8_eq (a % 256) (b % 256) (by omega) (by omega) (by omega) (by omega)
    simp only [bigE, List.map_cons, Op.bytesLess]
    rw [ih, ltU, Bool.eq_iff_iff]
    by_cases h : a = b
    · subst h
      simp
    · rw [if_neg h]
      simp only [Bool.or_eq_true, Bool.and_eq_true, decide_eq_true_eq, beq_iff_eq, l1, e1, l2, e2]
      omega

theorem big_text (A B : List Int) (hA : Units A) (hB : Units B) : Op.bytesLess (strOfNums (bigE A)).toList (strOfNums (bigE B)).toList = ltU A B := by
  rw [ByteArray.toList_eq, ByteArray.toList_eq, strOfNums_data, strOfNums_data]
  exact big_less A B hA hB

/-- What 'zzSameUnits' answers. -/
def sameU : List Int → List Int → Bool
  | [], [] => true
  | a :: x, b :: y => if a = b then sameU x y else false
  | _, _ => false
theorem sameU_len : ∀ (A B : List Int), A.length ≠ B.length → sameU A B = false
  | [], [], h => absurd rfl h
  | [], _ :: _, _ => rfl
  | _ :: _, [], _ => rfl
  | a :: x, b :: y, h => by
    rw [sameU]; split
    · exact sameU_len x y (fun e => h (by simp [e]))
    · rfl
theorem sameU_same (A B : List Int) (k : Nat) (ha : k < A.length) (hb : k < B.length) (h : A.getD k 0 = B.getD k 0) : sameU (A.drop k) (B.drop k) = sameU (A.drop (k + 1)) (B.drop (k + 1)) := by
  rw [drop_cons A k ha, drop_cons B k hb, sameU, if_pos h]
theorem sameU_other (A B : List Int) (k : Nat) (ha : k < A.length) (hb : k < B.length) (h : ¬ A.getD k 0 = B.getD k 0) : sameU (A.drop k) (B.drop k) = false := by
  rw [drop_cons A k ha, drop_cons B k hb, sameU, if_neg h]
theorem sameU_end (A B : List Int) (h : A.length = B.length) : sameU (A.drop A.length) (B.drop A.length) = true := by
  rw [List.drop_eq_nil_of_le (Nat.le_refl _), List.drop_eq_nil_of_le (by omega)]; rfl

/-- THE PLAIN LAW: of 'before', 'behind', 'equal' exactly one holds. -/
theorem trichotomy : ∀ (A B : List Int), (ltU A B = true ∧ ltU B A = false ∧ sameU A B = false) ∨ (ltU A B = false ∧ ltU B A = true ∧ sameU A B = false) ∨ (ltU A B = false ∧ ltU B A = false ∧ sameU A B = true)
  | [], [] => .inr (.inr ⟨rfl, rfl, rfl⟩)
  | [], _ :: _ => .inl ⟨rfl, rfl, rfl⟩
  | _ :: _, [] => .inr (.inl ⟨rfl, rfl, rfl⟩)
  | a :: x, b :: y => by
    have ih := trichotomy x y
    by_cases h : a = b
    · subst h
      simpa [ltU, sameU] using ih
    · rw [ltU, ltU, sameU, if_neg h, if_neg (fun e => h e.symm), if_neg h]
      by_cases hl : a < b
      · exact .inl ⟨decide_eq_true hl, decide_eq_false (by omega), rfl⟩
      · exact .inr (.inl ⟨decide_eq_false hl, decide_eq_true (by omega), rfl⟩)

end Go.Proofs.Qxb6600276a
