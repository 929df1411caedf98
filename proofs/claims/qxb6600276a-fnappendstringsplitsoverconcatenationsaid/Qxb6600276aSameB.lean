/-
  The contract of 'zzSameBytes' (20).
-/
import Derived.Test.Qxb6600276aRow
import Derived.Test.Qxb6600276aBigPlain
import Derived.WalkKit
import Derived.WalkSpells
import Derived.WalkLawsBesides
import Derived.Deep.QuietTactic
import Derived.BigQuiet
namespace Go.Proofs.Qxb6600276a
open Go.RowKit
set_option linter.unusedVariables false

set_option maxHeartbeats 400000 in
/-- The lengths differ. -/
theorem sameB_len (a b : Option Addr) (la lb ca cb : Nat) (w : World) (h0 : ¬ la = lb) :
    Calls Try.prog 20 #[.slice a la ca, .slice b lb cb] w fun e w' => e = .returned (.bool false) ∧ Below w.heap.size w w' := by
  have hne : ((la : Int) != (lb : Int)) = true := by simp; omega
  go_enter Try.func20, Try.ntmps20
  go_wp2
  go_ret
  exact ⟨rfl, Below.refl _ _⟩

set_option maxHeartbeats 400000 in
/-- Neither has an element. -/
theorem sameB_zero (a b : Option Addr) (ca cb : Nat) (w : World) :
    Calls Try.prog 20 #[.slice a 0 ca, .slice b 0 cb] w fun e w' => e = .returned (.bool true) ∧ Below w.heap.size w w' := by
  go_enter Try.func20, Try.ntmps20
  go_wp2
  go_loop [5] (fun i => i = .int .i64 0) (fun _ => 0)
  case atStart => rfl
  case round =>
    subst hrel
    go_wp2
    go_ret
    exact ⟨rfl, Below.refl _ _⟩

set_option maxHeartbeats 1000000 in
theorem sameB_rows (A B : List Int) (la ba oa ca bb ob cb : Nat) (w : World) (ha : la ≤ 1048576) (eA : A.length = la) (eB : B.length = la)
    (hcA : ∀ i, i < la → w.cell? ⟨ba, oa + i, none⟩ = some (.int .u8 (A.getD i 0))) (hcB : ∀ i, i < la → w.cell? ⟨bb, ob + i, none⟩ = some (.int .u8 (B.getD i 0))) :
    Calls Try.prog 20 #[.slice (some ⟨ba, oa, none⟩) la ca, .slice (some ⟨bb, ob, none⟩) la cb] w fun e w' => e = .returned (.bool (sameU A B)) ∧ Below w.heap.size w w' := by
  have HA : Hid (∀ i, i < la → w.cell? ⟨ba, oa + i, none⟩ = some (.int .u8 (A.getD i 0))) := hcA
  have HB : Hid (∀ i, i < la → w.cell? ⟨bb, ob + i, none⟩ = some (.int .u8 (B.getD i 0))) := hcB
  have EA : Hid (A.length = la) := eA
  have EB : Hid (B.length = la) := eB
  clear hcA hcB eA eB
  have hne0 : ((la : Int) != (la : Int)) = false := by simp
  go_enter Try.func20, Try.ntmps20
  go_wp2
  go_loopw [5] (fun i wr => ∃ k : Nat, k ≤ la ∧ i = .int .i64 k ∧ Hid (sameU (A.drop k) (B.drop k) = sameU A B) ∧ Below w.heap.size w wr) (fun i _ => la - (intOf i).toNat)
  case atStart => exact ⟨0, Nat.zero_le _, rfl, rfl, Below.refl _ _⟩
  case round =>
    obtain ⟨k, hka, rfl, hinv, hbel⟩ := hrel
    by_cases h1 : k < la
    · have hk1 : k < A.length := by have := EA.out; omega
      have hk2 : k < B.length := by have := EB.out; omega
      obtain ⟨x, hx⟩ : ∃ x, x = A.getD k 0 := ⟨_, rfl⟩
      obtain ⟨y, hy⟩ : ∃ y, y = B.getD k 0 := ⟨_, rfl⟩
      have c1 : wr.cell? ⟨ba, oa + k, none⟩ = some (.int .u8 x) := by rw [hx]; exact cell_later hbel (HA.out k h1)
      have c2 : wr.cell? ⟨bb, ob + k, none⟩ = some (.int .u8 y) := by rw [hy]; exact cell_later hbel (HB.out k h1)
      have hi1 : (k : Int) < (la : Int) := by omega
      by_cases hxy : x = y
      · have hne : (x != y) = false := by simp [hxy]
        have R : Hid (sameU (A.drop (k + 1)) (B.drop (k + 1)) = sameU A B) := by
          have := sameU_same A B k hk1 hk2 (by rw [← hx, ← hy, hxy]); rw [← this]; exact hinv
        clear hxy hx hy hinv hk1 hk2
        go_wp2
        go_quiet (fail)
        go_wp2
        go_roundw
        case rel => exact ⟨k + 1, by omega, by go_num, R, below_drewN hbel _⟩
        case measure => simp [intOf]; omega
      · have hne : (x != y) = true := by simp [hxy]
        have R : Hid (sameU A B = false) := by
          have := sameU_other A B k hk1 hk2 (by rw [← hx, ← hy]; exact hxy); show _ = _; rw [← this]; exact hinv.symm
        clear hxy hx hy hinv hk1 hk2
        go_wp2
        go_quiet (fail)
        go_wp2
        go_ret
        exact ⟨ret_bool R.out.symm, below_drewN hbel _⟩
    · have R : Hid (sameU A B = true) := by
        have e : k = A.length := by have := EA.out; omega
        have := sameU_end A B (by rw [EA.out, EB.out])
        have q := hinv.out
        rw [e] at q
        show _ = _
        rw [← q, this]
      clear hinv
      go_wp2
      go_ret
      exact ⟨ret_bool R.out.symm, hbel⟩

theorem sameB_any (va vb : Value) (A B : List Int) (w : World) (hA : Row .u8 w va A) (hB : Row .u8 w vb B) (ha : A.length ≤ 1048576) :
    Calls Try.prog 20 #[va, vb] w fun e w' => e = .returned (.bool (sameU A B)) ∧ Below w.heap.size w w' := by
  obtain ⟨a, ca, rfl, h1⟩ := hA
  obtain ⟨b, cb, rfl, h2⟩ := hB
  by_cases hl : A.length = B.length
  · by_cases h0 : A = []
    · subst h0
      obtain rfl : B = [] := List.eq_nil_of_length_eq_zero (by rw [← hl]; rfl)
      exact sameB_zero a b ca cb w
    · have h0' : B ≠ [] := fun h => h0 (List.eq_nil_of_length_eq_zero (by rw [hl, h]; rfl))
      obtain ⟨ba, oa, rfl, hcA⟩ := h1 h0
      obtain ⟨bb, ob, rfl, hcB⟩ := h2 h0'
      have := sameB_rows A B A.length ba oa ca bb ob cb w ha rfl hl.symm hcA (by rw [hl]; exact hcB)
      rw [← hl]; exact this
  · refine (sameB_len a b A.length B.length ca cb w hl).mono fun e w' ⟨he, hbel⟩ => ⟨?_, hbel⟩
    rw [he, sameU_len A B hl]

end Go.Proofs.Qxb6600276a
