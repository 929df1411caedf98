/-
  'Rows.FnGb18030TwoByteListIsExactlyLengthTwoSaid' ('example.com/tuoguan/tuoguan/zzlaws_input_b1.FnGb18030TwoByteListIsExactlyLengthTwo'), off the given shell; the walk's end is said by 'Below' (behind an append the world is a variable).
-/
import Derived.Test.Qxb6600228aRows
import Derived.Test.Qxb6600228aTwo
import Derived.Test.Qxb6600228aOrder
import Derived.Test.Qxb6600228aLen
import Derived.Test.Qxb6600228aHas
import Derived.WalkKit
import Derived.WalkSpells
import Derived.WalkLawsBesides
import Derived.ProofKit
import Derived.OpenShut
import Derived.ShutString
import Derived.ChangeOld
import Derived.Below
namespace Go.Proofs.Qxb6600228a.fnGb18030TwoByteListIsExactlyLengthTwo
open Go.ChangeShapes Go.WideShapes Go.ChangeAt Go.RowKit
open Go.ChangeMaps (open_string shut_string)
set_option linter.unusedVariables false      -- a walk need not use every 'w<i>' (that an integer argument fits its kind)

theorem own : ownKnob Try.prog.godebug = none := by kernel_rfl

/-- The first two bytes of 'a, b, tail'. -/
theorem byte0 (a b : Nat) (t : ByteArray) (ha : a < 256) (h : 0 < (two a b ++ t).size) : ((two a b ++ t)[0]'h).toNat = a := by
  have e : (two a b ++ t)[0]'h = (two a b)[0]'(by rw [two_size]; omega) := ByteArray.getElem_append_left _
  rw [e]
  show (UInt8.ofNat a).toNat = a
  rw [UInt8.toNat_ofNat']; omega
theorem byte1 (a b : Nat) (t : ByteArray) (hb : b < 256) (h : 1 < (two a b ++ t).size) : ((two a b ++ t)[1]'h).toNat = b := by
  have e : (two a b ++ t)[1]'h = (two a b)[1]'(by rw [two_size]; omega) := ByteArray.getElem_append_left _
  rw [e]
  show (UInt8.ofNat b).toNat = b
  rw [UInt8.toNat_ofNat']; omega

/-- THE PLAIN LAW: 'a, b, tail' is measured 2 just where (a, b) is a code. -/
theorem len_listed (a b : Nat) (t : ByteArray) (ha : a < 256) (hb : b < 256) : ((lenB (two a b ++ t) == 2) == listed a b) = true := by
  have hz : (two a b ++ t).size = 2 + t.size := by rw [ByteArray.size_append, two_size]
  have i0 : ∀ lo hi : Int, inB (two a b ++ t) 0 lo hi = (decide (lo ≤ (a : Int)) && decide ((a : Int) ≤ hi)) := by
    intro lo hi
    unfold inB
    rw [dif_pos (show Int.toNat 0 < (two a b ++ t).size from (show 0 < (two a b ++ t).size by omega))]
    have e := byte0 a b t ha (show 0 < (two a b ++ t).size by omega)
    show (decide (lo ≤ (((two a b ++ t)[0]'_).toNat : Int)) && decide ((((two a b ++ t)[0]'_).toNat : Int) ≤ hi)) = _
    rw [e]
  have i1 : ∀ lo hi : Int, inB (two a b ++ t) 1 lo hi = (decide (lo ≤ (b : Int)) && decide ((b : Int) ≤ hi)) := by
    intro lo hi
    unfold inB
    rw [dif_pos (show Int.toNat 1 < (two a b ++ t).size from (show 1 < (two a b ++ t).size by omega))]
    have e := byte1 a b t hb (show 1 < (two a b ++ t).size by omega)
    show (decide (lo ≤ (((two a b ++ t)[1]'_).toNat : Int)) && decide ((((two a b ++ t)[1]'_).toNat : Int) ≤ hi)) = _
    rw [e]
  rw [beq_iff_eq, Bool.eq_iff_iff, beq_iff_eq]
  unfold lenB
  rw [i0, i0, i1, i1, i1]
  simp only [listed, Bool.and_eq_true, Bool.and_eq_false_iff, decide_eq_true_eq, decide_eq_false_iff_not]
  split
  · omega
  · split
    · omega
    · split
      · omega
      · split <;> omega

theorem walk_long (a b : Int) (t : ByteArray) (w : World) (ht : 1048576 < t.size) (hm : t.size ≤ maxLen) :
    Calls Try.prog 7 #[.int .u8 a, .int .u8 b, .string t] w fun e w' => e = .returned (.bool true) ∧ Below w.heap.size w w' := by
  unfold maxLen at hm
  go_enter Try.func7, Try.ntmps7
  go_wp2
  go_ret
  exact ⟨rfl, Below.refl _ _⟩

set_option maxRecDepth 100000 in
set_option maxHeartbeats 400000 in
theorem walk_in (a b : Nat) (t : ByteArray) (w : World) (ha : a < 256) (hb : b < 256) (ht : t.size ≤ 1048576) :
    Calls Try.prog 7 #[.int .u8 (a : Int), .int .u8 (b : Int), .string t] w fun e w' => e = .returned (.bool true) ∧ Below w.heap.size w w' := by
  have hcv := conv_two
  go_enter Try.func7, Try.ntmps7
  go_wp2_with (first | (go_at_call 13; go_in) | (go_at_call 12; refine (zztwo_any _).mono ?_; rintro e w' ⟨n, g, cap, rfl, hn1, hn2, hg, hc, hbel⟩))
  refine (has_any a b g n cap _ ha hb hn1 hn2 hc).mono ?_
  rintro e w2 ⟨rfl, rfl⟩
  clear hc
  have h2 := two_size a b
  have hsum : (two a b).size + t.size ≤ 9223372036854775807 := by omega
  go_wp2_with fail
  refine (zzlen_any _ _ (by rw [ByteArray.size_append]; unfold maxLen; omega)).mono ?_
  rintro e w3 ⟨rfl, hbel3⟩
  go_wp2_with fail
  go_ret
  have hw1 : Below w.heap.size w w2 := ((Below.refl _ _).alloc (Nat.le_refl _) _).trans (hbel.mono (by simp))
  exact ⟨ret_bool (len_listed a b t ha hb), hw1.trans (hbel3.mono (by have := hw1.size; omega))⟩

theorem walk (a0 : Int) (a1 : Int) (a2 : ByteArray) (w0 : (Lit.int .u8 a0).wf = true) (w1 : (Lit.int .u8 a1).wf = true) (w2 : a2.size ≤ maxLen) (w : World) :
    Calls Try.prog 7 #[.int .u8 a0, .int .u8 a1, .string a2] w fun e w' => e = .returned (.bool true) ∧ Below w.heap.size w w' := by
  have b0 := bounds_u8 w0
  have b1 := bounds_u8 w1
  obtain ⟨a, rfl⟩ : ∃ k : Nat, a0 = (k : Int) := ⟨a0.toNat, by omega⟩
  obtain ⟨b, rfl⟩ : ∃ k : Nat, a1 = (k : Int) := ⟨a1.toNat, by omega⟩
  by_cases h : 1048576 < a2.size
  · exact walk_long _ _ a2 w h w2
  · exact walk_in a b a2 w (by omega) (by omega) (by omega)

/-! ### THE ROW's STEP: WRITTEN OUT: LEAVE IT -/
set_option maxRecDepth 100000 in
theorem lifted (os : Os) (started : os.Started) (H : Type) (enc : TypeId × Value → H) :
    ReturnsInHanded {} Try.checked os 7 .any (Rows.fnGb18030TwoByteListIsExactlyLengthTwoSpec.pre6 enc Try.prog Try.f7 Rows.fnGb18030TwoByteListIsExactlyLengthTwoRow.domain false) (Rows.fnGb18030TwoByteListIsExactlyLengthTwoSpec.post enc Try.prog Try.f7 false true false false) := by
  refine returnsInHanded_of_change (C := Try.checked) own started (by kernel_rfl) Try.func7
    (ChangeSpec.witness6 (enc := enc) (C := Try.checked) false ⟨#[], #[.int .u8 0, .int .u8 0, .string ByteArray.empty], []⟩ 8 (by kernel_rfl) (by kernel_rfl) (by kernel_rfl) (by kernel_rfl)) ?_
  intro W base args ds gs before hval0 hW hcnd _
  have hval : ∀ (j : Nat) t v, Try.f7.params[j]? = some t → args[j]? = some v → Value.okWide Try.prog W .any base t v := hval0
  have hW' := hW
  obtain ⟨p, q, hA0, hV, rfl, hfz, hnd⟩ := hW
  have hA : DataW.TrodAll enc Try.prog W 0 (fun _ => true) true Try.f7.params.toList args.toList ds p := hA0
  rw [Try.params7] at hA hval
  obtain ⟨v0, vs0, d0, ds0, p0, q0, hargs, rfl, rfl, h0, r0⟩ := trodAll_cons hA
  obtain ⟨v1, vs1, d1, ds1, p1, q1, rfl, rfl, rfl, h1, r1⟩ := trodAll_cons r0
  obtain ⟨v2, vs2, d2, ds2, p2, q2, rfl, rfl, rfl, h2, r2⟩ := trodAll_cons r1
  obtain ⟨rfl, rfl, rfl⟩ := trodAll_nil r2
  obtain rfl : args = #[v0, v1, v2] := by cases args; simp_all
  obtain ⟨rfl, rfl⟩ := trodVars_none hV
  obtain ⟨a0, rfl, rfl, rfl, w0⟩ := open_int Try.underlying5 (hval 0 5 v0 rfl rfl) h0
  obtain ⟨a1, rfl, rfl, rfl, w1⟩ := open_int Try.underlying5 (hval 1 5 v1 rfl rfl) h1
  obtain ⟨a2, rfl, rfl, rfl, w2⟩ := open_string Try.underlying9 (hval 2 9 v2 rfl rfl) h2
  clear hA0 hval0
  simp only [List.append_nil] at hW'
  refine (walk a0 a1 a2 w0 w1 w2 W).mono fun e W' ⟨he, hg⟩ => ?_
  subst he
  exact ⟨_, rfl, _, _, _, [], [], [], hW', trodAll_mk1 (shut_bool Try.underlying4 _), (trodAll_cons_mk (shut_int Try.underlying5 w0) (trodAll_cons_mk (shut_int Try.underlying5 w1) (trodAll_cons_mk (shut_string Try.underlying9 w2) trodAll_mk0))), rfl, hg.frame _, fun h => by cases h⟩

theorem over : Rows.fnGb18030TwoByteListIsExactlyLengthTwoRow.holds Try.pinned (OpenSpec.ofChange Rows.fnGb18030TwoByteListIsExactlyLengthTwoSpec) :=
  OpenClaim.holds_of_wide 7 Try.f7 rfl rfl rfl rfl rfl rfl rfl ⟨rfl, rfl, rfl, rfl, rfl⟩ rfl rfl rfl rfl rfl (by kernel_rfl) Try.func7 (by kernel_rfl)
    (of_decide_eq_true (by kernel_rfl)) (by unfold Func.isWrapper; first | (rw [if_pos (by decide +kernel)]; kernel_rfl) | (rw [if_neg (by decide +kernel)]; exact ⟨rfl, rfl⟩))
    (fun os started H enc _ => lifted os started H enc)

/-- ████ THE STATEMENT ████ -/
theorem proved : Rows.FnGb18030TwoByteListIsExactlyLengthTwoSaid :=
  over
#print axioms proved
end Go.Proofs.Qxb6600228a.fnGb18030TwoByteListIsExactlyLengthTwo
