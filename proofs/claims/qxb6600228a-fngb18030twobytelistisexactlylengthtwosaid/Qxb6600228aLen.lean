/-
  The contracts of 'gb18030Length' (22), its closure 'in' (25) and its export (10).
-/
import Derived.Test.Qxb6600228aRows
import Derived.WalkKit
import Derived.WalkSpells
import Derived.WalkLawsBesides
namespace Go.Proofs.Qxb6600228a
open Go.RowKit
set_option linter.unusedVariables false

/-- What 'in(j, lo, hi)' answers. -/
def inB (s : ByteArray) (j lo hi : Int) : Bool := if h : j.toNat < s.size then decide (lo ≤ (s[j.toNat].toNat : Int)) && decide ((s[j.toNat].toNat : Int) ≤ hi) else false
/-- What 'gb18030Length' answers. -/
def lenB (s : ByteArray) : Int :=
  if inB s 0 0 128 = true then 1 else if inB s 0 129 254 = false then 0 else if inB s 1 64 126 = true ∨ inB s 1 128 254 = true then 2
  else if inB s 1 48 57 = true ∧ inB s 2 129 254 = true ∧ inB s 3 48 57 = true then 4 else 0

theorem ret_bool {a b : Bool} (h : a = b) : Ending.returned (.bool a) = .returned (.bool b) := by rw [h]
theorem ret_int {k : IntKind} {a b : Int} (h : a = b) : Ending.returned (.int k a) = .returned (.int k b) := by rw [h]

set_option maxHeartbeats 400000 in
theorem in_nat (s : ByteArray) (i : Nat) (lo hi : Int) (B : Nat) (w : World) (hs : s.size ≤ maxLen) (hi9 : i ≤ 9) (hc : w.cell? ⟨B, 0, none⟩ = some (.string s)) :
    Calls Try.prog 25 #[.int .i64 (i : Int), .int .u8 lo, .int .u8 hi, .pointer (some ⟨B, 0, none⟩)] w fun e w' => e = .returned (.bool (inB s i lo hi)) ∧ w' = w := by
  unfold maxLen at hs
  by_cases h : i < s.size
  · by_cases h1 : lo ≤ (s[i].toNat : Int)
    · go_enter Try.func25, Try.ntmps25
      go_wp2
      go_ret
      exact ⟨ret_bool (by simp [inB, h, h1]), rfl⟩
    · go_enter Try.func25, Try.ntmps25
      go_wp2
      go_ret
      exact ⟨ret_bool (by simp only [inB, Int.toNat_natCast, dif_pos h]; rw [decide_eq_false (by omega)]; rfl), rfl⟩
  · go_enter Try.func25, Try.ntmps25
    go_wp2
    go_ret
    exact ⟨ret_bool (by simp [inB, h]), rfl⟩

theorem in_any (s : ByteArray) (j lo hi : Int) (B : Nat) (w : World) (hs : s.size ≤ maxLen) (h0 : 0 ≤ j) (h9 : j ≤ 9) (hc : w.cell? ⟨B, 0, none⟩ = some (.string s)) :
    Calls Try.prog 25 #[.int .i64 j, .int .u8 lo, .int .u8 hi, .pointer (some ⟨B, 0, none⟩)] w fun e w' => e = .returned (.bool (inB s j lo hi)) ∧ w' = w := by
  obtain ⟨i, rfl⟩ : ∃ i : Nat, j = (i : Int) := ⟨j.toNat, by omega⟩
  exact in_nat s i lo hi B w hs (by omega) hc

theorem bool_ways (b : Bool) : b = true ∨ b = false := by cases b <;> simp

set_option maxHeartbeats 1000000 in
theorem len_any (s : ByteArray) (w : World) (hs : s.size ≤ maxLen) :
    Calls Try.prog 22 #[.string s] w fun e w' => e = .returned (.int .i64 (lenB s)) ∧ Below w.heap.size w w' := by
  have hc : (w.alloc (.cells #[.string s] 9)).cell? ⟨w.heap.size, 0, none⟩ = some (.string s) := by simp [go_sem]
  have hb : Below w.heap.size w (w.alloc (.cells #[.string s] 9)) := (Below.refl _ _).alloc (Nat.le_refl _) _
  go_enter Try.func22, Try.ntmps22
  go_wp2_with fail
  refine (in_any s _ _ _ _ _ hs (by omega) (by omega) hc).mono ?_
  rintro e w' ⟨rfl, rfl⟩
  rcases bool_ways (inB s 0 0 128) with h0 | h0
  · go_wp2_with fail
    go_ret
    exact ⟨ret_int (by simp [lenB, h0]), hb⟩
  · go_wp2_with fail
    refine (in_any s _ _ _ _ _ hs (by omega) (by omega) hc).mono ?_
    rintro e w' ⟨rfl, rfl⟩
    rcases bool_ways (inB s 0 129 254) with h1 | h1
    · go_wp2_with fail
      refine (in_any s _ _ _ _ _ hs (by omega) (by omega) hc).mono ?_
      rintro e w' ⟨rfl, rfl⟩
      rcases bool_ways (inB s 1 64 126) with h2 | h2
      · go_wp2_with fail
        go_ret
        exact ⟨ret_int (by simp [lenB, h0, h1, h2]), hb⟩
      · go_wp2_with fail
        refine (in_any s _ _ _ _ _ hs (by omega) (by omega) hc).mono ?_
        rintro e w' ⟨rfl, rfl⟩
        rcases bool_ways (inB s 1 128 254) with h3 | h3
        · go_wp2_with fail
          go_ret
          exact ⟨ret_int (by simp [lenB, h0, h1, h2, h3]), hb⟩
        · go_wp2_with fail
          refine (in_any s _ _ _ _ _ hs (by omega) (by omega) hc).mono ?_
          rintro e w' ⟨rfl, rfl⟩
          rcases bool_ways (inB s 1 48 57) with h4 | h4
          · go_wp2_with fail
            refine (in_any s _ _ _ _ _ hs (by omega) (by omega) hc).mono ?_
            rintro e w' ⟨rfl, rfl⟩
            rcases bool_ways (inB s 2 129 254) with h5 | h5
            · go_wp2_with fail
              refine (in_any s _ _ _ _ _ hs (by omega) (by omega) hc).mono ?_
              rintro e w' ⟨rfl, rfl⟩
              rcases bool_ways (inB s 3 48 57) with h6 | h6
              · go_wp2_with fail
                go_ret
                exact ⟨ret_int (by simp [lenB, h0, h1, h2, h3, h4, h5, h6]), hb⟩
              · go_wp2_with fail
                go_ret
                exact ⟨ret_int (by simp [lenB, h0, h1, h2, h3, h4, h5, h6]), hb⟩
            · go_wp2_with fail
              go_ret
              exact ⟨ret_int (by simp [lenB, h0, h1, h2, h3, h4, h5]), hb⟩
          · go_wp2_with fail
            go_ret
            exact ⟨ret_int (by simp [lenB, h0, h1, h2, h3, h4]), hb⟩
    · go_wp2_with fail
      go_ret
      exact ⟨ret_int (by simp [lenB, h0, h1]), hb⟩

theorem zzlen_any (s : ByteArray) (w : World) (hs : s.size ≤ maxLen) :
    Calls Try.prog 10 #[.string s] w fun e w' => e = .returned (.int .i64 (lenB s)) ∧ Below w.heap.size w w' := by
  go_enter Try.func10, Try.ntmps10
  go_wp2_with (go_at_call 22; refine (len_any s _ hs).mono ?_; rintro e w' ⟨rfl, hbel⟩)
  go_ret
  exact ⟨rfl, hbel⟩

end Go.Proofs.Qxb6600228a
