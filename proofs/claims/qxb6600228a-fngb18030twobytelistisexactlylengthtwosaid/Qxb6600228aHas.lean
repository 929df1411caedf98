/-
  The contract of 'zzSortedHas' (14) over the list of codes: it says whether (a, b) is a code.
-/
import Derived.Test.Qxb6600228aRows
import Derived.Test.Qxb6600228aOrder
import Derived.WalkKit
import Derived.WalkSpells
import Derived.WalkLawsBesides
namespace Go.Proofs.Qxb6600228a
open Go.RowKit

/-- Are the bytes a, b a two-byte code? -/
def listed (a b : Nat) : Bool := decide (129 ≤ a ∧ a ≤ 254 ∧ 64 ≤ b ∧ b ≤ 254 ∧ b ≠ 127)

/-- Where the codes below 'l' lie below (a, b) and those from 'l' on do not, (a, b) is listed just where it is code l. -/
theorem listed_at (a b l : Nat) (ha : a < 256) (hb : b < 256) (hl : l ≤ 23940) (h1 : ∀ i, i < l → cval i < val a b) (h2 : ∀ i, l ≤ i → i < 23940 → val a b ≤ cval i) :
    listed a b = (decide (l < 23940) && decide (cval l = val a b)) := by
  rw [Bool.eq_iff_iff]
  simp only [listed, decide_eq_true_eq, Bool.and_eq_true]
  constructor
  · rintro ⟨p1, p2, p3, p4, p5⟩
    have hk := cnt_code a b p1 p3 p4 p5
    have hlt : cnt a b < 23940 := by unfold cnt; split <;> omega
    have hv : cval (cnt a b) = val a b := by
      have e := code_eq (cnt a b) a b hlt ha hb
      rw [hk, beq_self_eq_true] at e
      exact of_decide_eq_true e.symm
    have q1 : ¬ cnt a b < l := fun h => by have := h1 _ h; omega
    have q2 : ¬ l < cnt a b := fun h => by have := h2 l (Nat.le_refl _) (by omega); have := cval_mono _ _ h; omega
    have q3 : l = cnt a b := by omega
    subst q3
    exact ⟨hlt, hv⟩
  · rintro ⟨p1, p2⟩
    have t := tl_bd (l % 190) (Nat.mod_lt _ (by omega))
    have t7 : tl (l % 190) ≠ 127 := by unfold tl; split <;> omega
    unfold cval val at p2
    omega

theorem ret_has {a b : Bool} (h : a = b) : Ending.returned (.bool a) = .returned (.bool b) := by rw [h]

set_option maxRecDepth 100000 in
set_option maxHeartbeats 400000 in
theorem has_any (a b g n cap : Nat) (w : World) (ha : a < 256) (hb : b < 256) (hn1 : n ≤ 23940) (hn2 : 23940 ≤ n)
    (hc : ∀ k, k < 23940 → w.cell? ⟨g, k, none⟩ = some (.string (codeOf k))) :
    Calls Try.prog 14 #[.slice (some ⟨g, 0, none⟩) n cap, .string (two a b)] w fun e w' => e = .returned (.bool (listed a b)) ∧ w' = w := by
  have HC : Hid (∀ k, k < 23940 → w.cell? ⟨g, k, none⟩ = some (.string (codeOf k))) := hc
  clear hc
  go_enter Try.func14, Try.ntmps14
  go_wp2
  go_loop [5, 6] (fun x y => ∃ l h : Nat, l ≤ h ∧ h ≤ n ∧ x = .int .i64 l ∧ y = .int .i64 h ∧ (∀ i, i < l → cval i < val a b) ∧ (∀ i, h ≤ i → i < 23940 → val a b ≤ cval i)) (fun x y => (intOf y).toNat - (intOf x).toNat)
  case atStart => exact ⟨0, n, Nat.zero_le _, Nat.le_refl _, rfl, rfl, fun i hi => by omega, fun i h1 h2 => by omega⟩
  case round =>
    obtain ⟨l, h, hlh, hhn, rfl, rfl, h1, h2⟩ := hrel
    have H1 : Hid (∀ i, i < l → cval i < val a b) := h1
    have H2 : Hid (∀ i, h ≤ i → i < 23940 → val a b ≤ cval i) := h2
    clear h1 h2
    by_cases hlt : l < h
    · have hcell := HC.out (l + (h - l) / 2) (by omega)
      have hless := code_less (l + (h - l) / 2) a b (by omega) ha hb
      by_cases hv : cval (l + (h - l) / 2) < val a b
      · have hl' : Op.bytesLess (codeOf (l + (h - l) / 2)).toList (two a b).toList = true := by rw [hless]; exact decide_eq_true hv
        clear hless
        go_wp2
        go_round
        case rel =>
          refine ⟨l + (h - l) / 2 + 1, h, by omega, by omega, by go_num, rfl, fun i hi => ?_, H2.out⟩
          by_cases e : i = l + (h - l) / 2
          · rw [e]; exact hv
          · have := cval_mono i (l + (h - l) / 2) (by omega); omega
        case measure => simp [intOf]; omega
      · have hl' : Op.bytesLess (codeOf (l + (h - l) / 2)).toList (two a b).toList = false := by rw [hless]; exact decide_eq_false hv
        clear hless
        go_wp2
        go_round
        case rel =>
          refine ⟨l, l + (h - l) / 2, by omega, by omega, rfl, by go_num, H1.out, fun i hi hi2 => ?_⟩
          by_cases e : i = l + (h - l) / 2
          · rw [e]; omega
          · have := cval_mono (l + (h - l) / 2) i (by omega); omega
        case measure => simp [intOf]; omega
    · have hle : h = l := by omega
      subst hle
      have hL := listed_at a b h ha hb (by omega) H1.out H2.out
      have HL : Hid (listed a b = (decide (h < 23940) && decide (cval h = val a b))) := hL
      clear hL
      by_cases hh : h < 23940
      · have hcell := HC.out h hh
        have hq := code_eq h a b hh ha hb
        have HQ : Hid (((codeOf h).toList == (two a b).toList) = decide (cval h = val a b)) := hq
        clear hq
        have hhn' : (h : Int) < (n : Int) := by omega
        go_wp2
        go_ret
        exact ⟨ret_has (by rw [HL.out, decide_eq_true hh, Bool.true_and]; exact HQ.out), rfl⟩
      · have hhn' : ¬ (h : Int) < (n : Int) := by omega
        go_wp2
        go_ret
        exact ⟨ret_has (by rw [HL.out, decide_eq_false hh, Bool.false_and]), rfl⟩

end Go.Proofs.Qxb6600228a
