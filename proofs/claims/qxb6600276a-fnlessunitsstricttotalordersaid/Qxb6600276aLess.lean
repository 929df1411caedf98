/-
  The contract of 'lessUnits' (22) and its export (10).
-/
import Derived.Test.Qxb6600276aRow
import Derived.WalkKit
import Derived.WalkSpells
import Derived.WalkLawsBesides
import Derived.Deep.QuietTactic
import Derived.BigQuiet
namespace Go.Proofs.Qxb6600276a
open Go.RowKit
set_option linter.unusedVariables false

set_option maxHeartbeats 400000 in
/-- One of the two has no element: the loop is left at its first test. -/
theorem less_zero (a b : Option Addr) (la lb ca cb : Nat) (w : World) (h0 : la = 0 ∨ lb = 0) (ha : la ≤ 1048576) (hb : lb ≤ 1048576) :
    Calls Try.prog 22 #[.slice a la ca, .slice b lb cb] w fun e w' => e = .returned (.bool (decide (la < lb))) ∧ Below w.heap.size w w' := by
  go_enter Try.func22, Try.ntmps22
  go_wp2
  go_loop [5] (fun i => i = .int .i64 0) (fun _ => 0)
  case atStart => rfl
  case round =>
    subst hrel
    by_cases hl : la = 0
    · subst hl
      go_wp2
      go_ret
      exact ⟨rfl, Below.refl _ _⟩
    · have hl2 : lb = 0 := by omega
      subst hl2
      have hp : (0 : Int) < (la : Int) := by omega
      go_wp2
      go_ret
      exact ⟨ret_bool (by simp), Below.refl _ _⟩

set_option maxHeartbeats 1000000 in
theorem less_rows (A B : List Int) (ba oa ca bb ob cb : Nat) (w : World) (ha : A.length ≤ 1048576) (hb : B.length ≤ 1048576)
    (hcA : ∀ i, i < A.length → w.cell? ⟨ba, oa + i, none⟩ = some (.int .u16 (A.getD i 0))) (hcB : ∀ i, i < B.length → w.cell? ⟨bb, ob + i, none⟩ = some (.int .u16 (B.getD i 0))) :
    Calls Try.prog 22 #[.slice (some ⟨ba, oa, none⟩) A.length ca, .slice (some ⟨bb, ob, none⟩) B.length cb] w fun e w' => e = .returned (.bool (ltU A B)) ∧ Below w.heap.size w w' := by
  have HA : Hid (∀ i, i < A.length → w.cell? ⟨ba, oa + i, none⟩ = some (.int .u16 (A.getD i 0))) := hcA
  have HB : Hid (∀ i, i < B.length → w.cell? ⟨bb, ob + i, none⟩ = some (.int .u16 (B.getD i 0))) := hcB
  clear hcA hcB
  obtain ⟨la, hla⟩ : ∃ la, la = A.length := ⟨_, rfl⟩
  obtain ⟨lb, hlb⟩ : ∃ lb, lb = B.length := ⟨_, rfl⟩
  rw [← hla, ← hlb]
  rw [← hla] at ha
  rw [← hlb] at hb
  have Hla : Hid (la = A.length) := hla
  have Hlb : Hid (lb = B.length) := hlb
  clear hla hlb
  go_enter Try.func22, Try.ntmps22
  go_wp2
  go_loopw [5] (fun i wr => ∃ k : Nat, k ≤ la ∧ k ≤ lb ∧ i = .int .i64 k ∧ Hid (ltU (A.drop k) (B.drop k) = ltU A B) ∧ Below w.heap.size w wr) (fun i _ => la - (intOf i).toNat)
  case atStart => exact ⟨0, Nat.zero_le _, Nat.zero_le _, rfl, rfl, Below.refl _ _⟩
  case round =>
    obtain ⟨k, hka, hkb, rfl, hinv, hbel⟩ := hrel
    by_cases hlt : k < la ∧ k < lb
    · obtain ⟨h1, h2⟩ := hlt
      have hk1 : k < A.length := by have := Hla.out; omega
      have hk2 : k < B.length := by have := Hlb.out; omega
      obtain ⟨x, hx⟩ : ∃ x, x = A.getD k 0 := ⟨_, rfl⟩
      obtain ⟨y, hy⟩ : ∃ y, y = B.getD k 0 := ⟨_, rfl⟩
      have c1 : wr.cell? ⟨ba, oa + k, none⟩ = some (.int .u16 x) := by rw [hx]; exact cell_later hbel (HA.out k hk1)
      have c2 : wr.cell? ⟨bb, ob + k, none⟩ = some (.int .u16 y) := by rw [hy]; exact cell_later hbel (HB.out k hk2)
      have hi1 : (k : Int) < (la : Int) := by omega
      have hi2 : (k : Int) < (lb : Int) := by omega
      by_cases hxy : x = y
      · have hne : (x != y) = false := by simp [hxy]
        have R : Hid (ltU (A.drop (k + 1)) (B.drop (k + 1)) = ltU A B) := by
          have := ltU_same A B k hk1 hk2 (by rw [← hx, ← hy, hxy]); rw [← this]; exact hinv
        clear hxy hx hy hinv hk1 hk2
        go_wp2
        go_quiet (fail)
        go_wp2
        go_roundw
        case rel => exact ⟨k + 1, by omega, by omega, by go_num, R, below_drewN hbel _⟩
        case measure => simp [intOf]; omega
      · have hne : (x != y) = true := by simp [hxy]
        have R : Hid (ltU A B = decide (x < y)) := by
          have := ltU_other A B k hk1 hk2 (by rw [← hx, ← hy]; exact hxy); show _ = _; rw [hx, hy, ← this]; exact hinv.symm
        clear hxy hx hy hinv hk1 hk2
        go_wp2
        go_quiet (fail)
        go_wp2
        go_quiet (fail)
        go_wp2
        go_ret
        exact ⟨ret_bool R.out.symm, below_drewN (below_drewN hbel _) _⟩
    · have R : Hid (ltU A B = decide (la < lb)) := by
        have e1 := Hla.out
        have e2 := Hlb.out
        have := ltU_end A B k (by omega) (by omega) (by rw [← e1, ← e2]; exact hlt)
        show _ = _
        rw [e1, e2, ← this]; exact hinv.symm
      clear hinv
      by_cases h1 : k < la
      · have hi1 : (k : Int) < (la : Int) := by omega
        have hi2 : ¬ (k : Int) < (lb : Int) := by omega
        go_wp2
        go_ret
        exact ⟨ret_bool (by rw [R.out]), hbel⟩
      · have hi1 : ¬ (k : Int) < (la : Int) := by omega
        go_wp2
        go_ret
        exact ⟨ret_bool (by rw [R.out]), hbel⟩

theorem less_any (va vb : Value) (A B : List Int) (w : World) (hA : Row .u16 w va A) (hB : Row .u16 w vb B) (ha : A.length ≤ 1048576) (hb : B.length ≤ 1048576) :
    Calls Try.prog 22 #[va, vb] w fun e w' => e = .returned (.bool (ltU A B)) ∧ Below w.heap.size w w' := by
  obtain ⟨a, ca, rfl, h1⟩ := hA
  obtain ⟨b, cb, rfl, h2⟩ := hB
  by_cases h0 : A = [] ∨ B = []
  · refine (less_zero a b A.length B.length ca cb w (by rcases h0 with rfl | rfl <;> simp) ha hb).mono fun e w' ⟨he, hbel⟩ => ⟨?_, hbel⟩
    rw [he]
    rcases h0 with rfl | rfl
    · rw [nil_ltU]; rfl
    · rw [ltU_nil]; simp
  · obtain ⟨ba, oa, rfl, hcA⟩ := h1 (fun h => h0 (.inl h))
    obtain ⟨bb, ob, rfl, hcB⟩ := h2 (fun h => h0 (.inr h))
    exact less_rows A B ba oa ca bb ob cb w ha hb hcA hcB

theorem zzless_any (va vb : Value) (A B : List Int) (w : World) (hA : Row .u16 w va A) (hB : Row .u16 w vb B) (ha : A.length ≤ 1048576) (hb : B.length ≤ 1048576) :
    Calls Try.prog 10 #[va, vb] w fun e w' => e = .returned (.bool (ltU A B)) ∧ Below w.heap.size w w' := by
  go_enter Try.func10, Try.ntmps10
  go_wp2_with (go_at_call 22; refine (less_any va vb A B _ hA hB ha hb).mono ?_; rintro e w' ⟨rfl, hbel⟩)
  go_ret
  exact ⟨rfl, hbel⟩

end Go.Proofs.Qxb6600276a
