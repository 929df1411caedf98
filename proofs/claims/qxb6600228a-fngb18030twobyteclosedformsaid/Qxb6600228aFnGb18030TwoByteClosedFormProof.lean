/-
  'Rows.FnGb18030TwoByteClosedFormSaid' ('example.com/tuoguan/tuoguan/zzlaws_input_b1.FnGb18030TwoByteClosedForm'), off the given shell; the walk's end is said by 'Below' (behind an append the world is a variable).
-/
import Derived.Test.Qxb6600228aRows
import Derived.Test.Qxb6600228aTwo
import Derived.WalkKit
import Derived.WalkSpells
import Derived.WalkLawsBesides
import Derived.ProofKit
import Derived.OpenShut
import Derived.ShutString
import Derived.ChangeOld
import Derived.Below
namespace Go.Proofs.Qxb6600228a.fnGb18030TwoByteClosedForm
open Go.ChangeShapes Go.WideShapes Go.ChangeAt Go.RowKit
open Go.ChangeMaps (open_string shut_string)
set_option linter.unusedVariables false      -- a walk need not use every 'w<i>' (that an integer argument fits its kind)

theorem own : ownKnob Try.prog.godebug = none := by kernel_rfl

theorem walk_out (a0 : Int) (w : World) (h : a0 < 0 ∨ 23940 ≤ a0) :
    Calls Try.prog 5 #[.int .i64 a0] w fun e w' => e = .returned (.bool true) ∧ Below w.heap.size w w' := by
  by_cases h0 : a0 < 0
  · go_enter Try.func5, Try.ntmps5
    go_wp2
    go_ret
    exact ⟨rfl, Below.refl _ _⟩
  · have h1 : 23940 ≤ a0 := by omega
    have h2 : 0 ≤ a0 := by omega
    clear h h0
    go_enter Try.func5, Try.ntmps5
    go_wp2
    go_ret
    exact ⟨rfl, Below.refl _ _⟩

theorem ret_bool {a b : Bool} (h : a = b) : Ending.returned (.bool a) = .returned (.bool b) := by rw [h]

theorem code_lo (k : Nat) (hj : k % 190 < 63) : ((codeOf k).toList == (strOfNums [129 + (k : Int) / 190, 64 + (k : Int) % 190]).toList) = true := by
  have e : codeOf k = strOfNums [129 + (k : Int) / 190, 64 + (k : Int) % 190] := by
    simp only [codeOf, two, strOfNums, tl, if_pos hj, List.map_cons, List.map_nil]
    rw [show (129 + (k : Int) / 190).toNat = 129 + k / 190 from by omega, show (64 + (k : Int) % 190).toNat = 64 + k % 190 from by omega]
  rw [e]; exact beq_self_eq_true _
theorem code_hi (k : Nat) (hj : ¬ k % 190 < 63) : ((codeOf k).toList == (strOfNums [129 + (k : Int) / 190, 64 + (k : Int) % 190 + 1]).toList) = true := by
  have e : codeOf k = strOfNums [129 + (k : Int) / 190, 64 + (k : Int) % 190 + 1] := by
    simp only [codeOf, two, strOfNums, tl, if_neg hj, List.map_cons, List.map_nil]
    rw [show (129 + (k : Int) / 190).toNat = 129 + k / 190 from by omega, show (64 + (k : Int) % 190 + 1).toNat = 65 + k % 190 from by omega]
  rw [e]; exact beq_self_eq_true _

set_option maxRecDepth 100000 in
set_option maxHeartbeats 400000 in
theorem walk_in (k : Nat) (w : World) (h : k < 23940) :
    Calls Try.prog 5 #[.int .i64 (k : Int)] w fun e w' => e = .returned (.bool true) ∧ Below w.heap.size w w' := by
  have hcv := conv_ints
  by_cases hj : k % 190 < 63
  · go_enter Try.func5, Try.ntmps5
    go_wp2_with fail
    refine (zztwo_any _).mono ?_
    rintro e w' ⟨n, g, cap, rfl, hn1, hn2, hg, hc, hbel⟩
    have hck := hc k h
    clear hc
    go_wp2_with fail
    go_ret
    exact ⟨ret_bool (code_lo k hj), hbel.alloc hbel.size _⟩
  · go_enter Try.func5, Try.ntmps5
    go_wp2_with fail
    refine (zztwo_any _).mono ?_
    rintro e w' ⟨n, g, cap, rfl, hn1, hn2, hg, hc, hbel⟩
    have hck := hc k h
    clear hc
    go_wp2_with fail
    go_ret
    exact ⟨ret_bool (code_hi k hj), hbel.alloc hbel.size _⟩

theorem walk (a0 : Int) (w0 : (Lit.int .i64 a0).wf = true) (w : World) :
    Calls Try.prog 5 #[.int .i64 a0] w fun e w' => e = .returned (.bool true) ∧ Below w.heap.size w w' := by
  by_cases h : a0 < 0 ∨ 23940 ≤ a0
  · exact walk_out a0 w h
  · obtain ⟨k, rfl⟩ : ∃ k : Nat, a0 = (k : Int) := ⟨a0.toNat, by omega⟩
    exact walk_in k w (by omega)

/-! ### THE ROW's STEP: WRITTEN OUT: LEAVE IT -/
set_option maxRecDepth 100000 in
theorem lifted (os : Os) (started : os.Started) (H : Type) (enc : TypeId × Value → H) :
    ReturnsInHanded {} Try.checked os 5 .any (Rows.fnGb18030TwoByteClosedFormSpec.pre6 enc Try.prog Try.f5 Rows.fnGb18030TwoByteClosedFormRow.domain false) (Rows.fnGb18030TwoByteClosedFormSpec.post enc Try.prog Try.f5 false true false false) := by
  refine returnsInHanded_of_change (C := Try.checked) own started (by kernel_rfl) Try.func5
    (ChangeSpec.witness6 (enc := enc) (C := Try.checked) false ⟨#[], #[.int .i64 0], []⟩ 8 (by kernel_rfl) (by kernel_rfl) (by kernel_rfl) (by kernel_rfl)) ?_
  intro W base args ds gs before hval0 hW hcnd _
  have hval : ∀ (j : Nat) t v, Try.f5.params[j]? = some t → args[j]? = some v → Value.okWide Try.prog W .any base t v := hval0
  have hW' := hW
  obtain ⟨p, q, hA0, hV, rfl, hfz, hnd⟩ := hW
  have hA : DataW.TrodAll enc Try.prog W 0 (fun _ => true) true Try.f5.params.toList args.toList ds p := hA0
  rw [Try.params5] at hA hval
  obtain ⟨v0, vs0, d0, ds0, p0, q0, hargs, rfl, rfl, h0, r0⟩ := trodAll_cons hA
  obtain ⟨rfl, rfl, rfl⟩ := trodAll_nil r0
  obtain rfl : args = #[v0] := by cases args; simp_all
  obtain ⟨rfl, rfl⟩ := trodVars_none hV
  obtain ⟨a0, rfl, rfl, rfl, w0⟩ := open_int Try.underlying3 (hval 0 3 v0 rfl rfl) h0
  clear hA0 hval0
  simp only [List.append_nil] at hW'
  refine (walk a0 w0 W).mono fun e W' ⟨he, hg⟩ => ?_
  subst he
  exact ⟨_, rfl, _, _, _, [], [], [], hW', trodAll_mk1 (shut_bool Try.underlying4 _), (trodAll_cons_mk (shut_int Try.underlying3 w0) trodAll_mk0), rfl, hg.frame _, fun h => by cases h⟩

theorem over : Rows.fnGb18030TwoByteClosedFormRow.holds Try.pinned (OpenSpec.ofChange Rows.fnGb18030TwoByteClosedFormSpec) :=
  OpenClaim.holds_of_wide 5 Try.f5 rfl rfl rfl rfl rfl rfl rfl ⟨rfl, rfl, rfl, rfl, rfl⟩ rfl rfl rfl rfl rfl (by kernel_rfl) Try.func5 (by kernel_rfl)
    (of_decide_eq_true (by kernel_rfl)) (by unfold Func.isWrapper; first | (rw [if_pos (by decide +kernel)]; kernel_rfl) | (rw [if_neg (by decide +kernel)]; exact ⟨rfl, rfl⟩))
    (fun os started H enc _ => lifted os started H enc)

/-- ████ THE STATEMENT ████ -/
theorem proved : Rows.FnGb18030TwoByteClosedFormSaid :=
  over
#print axioms proved
end Go.Proofs.Qxb6600228a.fnGb18030TwoByteClosedForm
