/-
  'Rows.FnLessUnitsStrictTotalOrderSaid' ('example.com/toolbooth/toolbooth/zzlaws_internal_jcs_b1.FnLessUnitsStrictTotalOrder'), off the given shell.
-/
import Derived.Test.Qxb6600276aRows
import Derived.Test.Qxb6600276aLess
import Derived.Test.Qxb6600276aBig
import Derived.Test.Qxb6600276aCopy
import Derived.WalkKit
import Derived.WalkSpells
import Derived.WalkLawsBesides
import Derived.ProofKit
import Derived.OpenShut
import Derived.ShutString
import Derived.ChangeOld
import Derived.Below
namespace Go.Proofs.Qxb6600276a.fnLessUnitsStrictTotalOrder
open Go.ChangeShapes Go.WideShapes Go.ChangeAt Go.RowKit
open Go.ChangeMaps (open_string shut_string)
set_option linter.unusedVariables false

theorem own : ownKnob Try.prog.godebug = none := by kernel_rfl
theorem laidOut : laidOutB Try.prog = true := by kernel_rfl
theorem Try.info34 : (Try.prog.info? 34).map (fun i => (i.zero, i.size, i.bytes)) = some (some (.int .u16 0), 1, 2) := by kernel_rfl
theorem Try.size34 : (Try.prog.info? 34).map (·.size) = some 1 := by kernel_rfl

/-- Too long: let by at once. -/
theorem walk_long (a b : Option Addr) (la ca lb cb : Nat) (w : World) (h : 131072 < la ∨ 131072 < lb) (ha : la ≤ maxLen) (hb : lb ≤ maxLen) :
    Calls Try.prog 4 #[.slice a la ca, .slice b lb cb] w fun e w' => e = .returned (.bool true) ∧ Below w.heap.size w w' := by
  unfold maxLen at ha hb
  rcases h with h | h
  · go_enter Try.func4, Try.ntmps4
    go_wp2_with (go_at_call 12; go_in)
    all_goals (go_ret; exact ⟨rfl, Below.refl _ _⟩)
  · go_enter Try.func4, Try.ntmps4
    go_wp2_with (go_at_call 12; go_in)
    all_goals (go_ret; exact ⟨rfl, Below.refl _ _⟩)

set_option maxHeartbeats 1000000 in
theorem walk_nn (w : World)  :
    Calls Try.prog 4 #[.slice none 0 0, .slice none 0 0] w fun e w' => e = .returned (.bool true) ∧ Below w.heap.size w w' := by
  obtain ⟨i0, hi, hz0, hz1, hz2⟩ := info_parts Try.info34
  have nq : ∀ (w : World) (a : Option Addr) (n c : Nat), (binOp .neq 22 (.slice a n c) (.slice none 0 0)).run Try.prog w = .ok (.bool (!a.isNone)) w := fun w a n c => run_neq_slice_nil_any w 22 34 a n c 0 0 Try.underlying22
  go_enter Try.func4, Try.ntmps4
  go_wp2_with (first | (go_at_call 12; go_in))
  have RA : Hid (Row .u16 w _ []) := (Row.empty .u16 w none 0)
  have RB : Hid (Row .u16 w _ []) := (Row.empty .u16 w none 0)
  have BW : Below w.heap.size w w := Below.refl _ _
  obtain ⟨t1, t2, t3⟩ : ltU [] [] = false ∧ ltU [] [] = false ∧ sameU [] [] = true := ⟨rfl, rfl, rfl⟩
  all_goals
    refine (zzless_any _ _ [] [] _ RA.out RB.out (by simp) (by simp)).mono ?_
    rintro e w5 ⟨rfl, hb5⟩
    go_wp2_with fail
    refine (zzless_any _ _ [] [] _ (RB.out.later hb5) (RA.out.later hb5) (by simp) (by simp)).mono ?_
    rintro e w6 ⟨rfl, hb6⟩
    go_wp2_with fail
    refine (same_any _ _ [] [] _ ((RA.out.later hb5).later hb6) ((RB.out.later hb5).later hb6) (by simp)).mono ?_
    rintro e w7 ⟨rfl, hb7⟩
    go_wp2_with fail
    go_ret
    have s4 := BW.size
    have s5 := hb5.size
    have s6 := hb6.size
    exact ⟨rfl, ((BW.trans (hb5.mono (by omega))).trans (hb6.mono (by omega))).trans (hb7.mono (by omega))⟩

set_option maxHeartbeats 1000000 in
theorem walk_ns (w : World) (y : Addr) (lb cb : Nat) (B : List Int) (hlb : B.length = lb) (hB : Row .u16 w (.slice (some y) lb cb) B) (uB : Units B) (h2 : lb ≤ 131072) :
    Calls Try.prog 4 #[.slice none 0 0, .slice (some y) lb cb] w fun e w' => e = .returned (.bool true) ∧ Below w.heap.size w w' := by
  obtain ⟨i0, hi, hz0, hz1, hz2⟩ := info_parts Try.info34
  have nq : ∀ (w : World) (a : Option Addr) (n c : Nat), (binOp .neq 22 (.slice a n c) (.slice none 0 0)).run Try.prog w = .ok (.bool (!a.isNone)) w := fun w a n c => run_neq_slice_nil_any w 22 34 a n c 0 0 Try.underlying22
  have EB : Hid (B.length = lb) := hlb
  clear hlb
  go_enter Try.func4, Try.ntmps4
  go_wp2_with (first | (go_at_call 12; go_in) | (at_make; refine wpList_make_full _ rfl (.tmp 30) (.tmp 30) 22 rfl w.heap.size 34 i0 (.int .u16 0) 1 Try.underlying22 hi hz0 hz1 _ _ _ _ lb rfl rfl rfl rfl (by rw [hz2]; omega) (by unfold maxLen; omega) (Nat.le_refl _) ?_; intro w3 hown3 hgrow3; obtain ⟨w4, hrun4, hr4, hb4, hs4⟩ := copy_run w3 22 3 34 Try.underlying22 Try.size34 .u16 _ lb _ B EB.out (hB.later ((Below.refl _ _).grown hgrow3 (Nat.le_refl _) (fun k hk => by cases hk))) _ _ hown3 w ((Below.refl _ _).grown hgrow3 (Nat.le_refl _) (fun k hk => by cases hk)); clear hs4 hown3 hgrow3))
  have RA : Hid (Row .u16 w4 _ []) := (Row.empty .u16 w4 none 0)
  have RB : Hid (Row .u16 w4 _ B) := hr4
  have BW : Below w.heap.size w w4 := hb4
  have T := trichotomy [] B
  rcases T with ⟨t1, t2, t3⟩ | ⟨t1, t2, t3⟩ | ⟨t1, t2, t3⟩
  all_goals
    refine (zzless_any _ _ [] B _ RA.out RB.out (by simp) (by have := EB.out; omega)).mono ?_
    rintro e w5 ⟨rfl, hb5⟩
    go_wp2_with fail
    refine (zzless_any _ _ B [] _ (RB.out.later hb5) (RA.out.later hb5) (by have := EB.out; omega) (by simp)).mono ?_
    rintro e w6 ⟨rfl, hb6⟩
    go_wp2_with fail
    refine (same_any _ _ [] B _ ((RA.out.later hb5).later hb6) ((RB.out.later hb5).later hb6) (by simp)).mono ?_
    rintro e w7 ⟨rfl, hb7⟩
    go_wp2_with fail
    go_ret
    have s4 := BW.size
    have s5 := hb5.size
    have s6 := hb6.size
    exact ⟨rfl, ((BW.trans (hb5.mono (by omega))).trans (hb6.mono (by omega))).trans (hb7.mono (by omega))⟩

set_option maxHeartbeats 1000000 in
theorem walk_sn (w : World) (x : Addr) (la ca : Nat) (A : List Int) (hla : A.length = la) (hA : Row .u16 w (.slice (some x) la ca) A) (uA : Units A) (h1 : la ≤ 131072) :
    Calls Try.prog 4 #[.slice (some x) la ca, .slice none 0 0] w fun e w' => e = .returned (.bool true) ∧ Below w.heap.size w w' := by
  obtain ⟨i0, hi, hz0, hz1, hz2⟩ := info_parts Try.info34
  have nq : ∀ (w : World) (a : Option Addr) (n c : Nat), (binOp .neq 22 (.slice a n c) (.slice none 0 0)).run Try.prog w = .ok (.bool (!a.isNone)) w := fun w a n c => run_neq_slice_nil_any w 22 34 a n c 0 0 Try.underlying22
  have EA : Hid (A.length = la) := hla
  clear hla
  go_enter Try.func4, Try.ntmps4
  go_wp2_with (first | (go_at_call 12; go_in) | (at_make; refine wpList_make_full _ rfl (.tmp 21) (.tmp 21) 22 rfl w.heap.size 34 i0 (.int .u16 0) 1 Try.underlying22 hi hz0 hz1 _ _ _ _ la rfl rfl rfl rfl (by rw [hz2]; omega) (by unfold maxLen; omega) (Nat.le_refl _) ?_; intro w1 hown1 hgrow1; obtain ⟨w2, hrun2, hr2, hb2, hs2⟩ := copy_run w1 22 3 34 Try.underlying22 Try.size34 .u16 _ la _ A EA.out (hA.later ((Below.refl _ _).grown hgrow1 (Nat.le_refl _) (fun k hk => by cases hk))) _ _ hown1 w ((Below.refl _ _).grown hgrow1 (Nat.le_refl _) (fun k hk => by cases hk)); clear hs2 hown1 hgrow1))
  have RA : Hid (Row .u16 w2 _ A) := hr2
  have RB : Hid (Row .u16 w2 _ []) := (Row.empty .u16 w2 none 0)
  have BW : Below w.heap.size w w2 := hb2
  have T := trichotomy A []
  rcases T with ⟨t1, t2, t3⟩ | ⟨t1, t2, t3⟩ | ⟨t1, t2, t3⟩
  all_goals
    refine (zzless_any _ _ A [] _ RA.out RB.out (by have := EA.out; omega) (by simp)).mono ?_
    rintro e w5 ⟨rfl, hb5⟩
    go_wp2_with fail
    refine (zzless_any _ _ [] A _ (RB.out.later hb5) (RA.out.later hb5) (by simp) (by have := EA.out; omega)).mono ?_
    rintro e w6 ⟨rfl, hb6⟩
    go_wp2_with fail
    refine (same_any _ _ A [] _ ((RA.out.later hb5).later hb6) ((RB.out.later hb5).later hb6) (by have := EA.out; omega)).mono ?_
    rintro e w7 ⟨rfl, hb7⟩
    go_wp2_with fail
    go_ret
    have s4 := BW.size
    have s5 := hb5.size
    have s6 := hb6.size
    exact ⟨rfl, ((BW.trans (hb5.mono (by omega))).trans (hb6.mono (by omega))).trans (hb7.mono (by omega))⟩

set_option maxHeartbeats 1000000 in
theorem walk_ss (w : World) (x : Addr) (la ca : Nat) (A : List Int) (hla : A.length = la) (hA : Row .u16 w (.slice (some x) la ca) A) (uA : Units A) (h1 : la ≤ 131072) (y : Addr) (lb cb : Nat) (B : List Int) (hlb : B.length = lb) (hB : Row .u16 w (.slice (some y) lb cb) B) (uB : Units B) (h2 : lb ≤ 131072) :
    Calls Try.prog 4 #[.slice (some x) la ca, .slice (some y) lb cb] w fun e w' => e = .returned (.bool true) ∧ Below w.heap.size w w' := by
  obtain ⟨i0, hi, hz0, hz1, hz2⟩ := info_parts Try.info34
  have nq : ∀ (w : World) (a : Option Addr) (n c : Nat), (binOp .neq 22 (.slice a n c) (.slice none 0 0)).run Try.prog w = .ok (.bool (!a.isNone)) w := fun w a n c => run_neq_slice_nil_any w 22 34 a n c 0 0 Try.underlying22
  have EA : Hid (A.length = la) := hla
  clear hla
  have EB : Hid (B.length = lb) := hlb
  clear hlb
  go_enter Try.func4, Try.ntmps4
  go_wp2_with (first | (go_at_call 12; go_in) | (at_make; refine wpList_make_full _ rfl (.tmp 21) (.tmp 21) 22 rfl w.heap.size 34 i0 (.int .u16 0) 1 Try.underlying22 hi hz0 hz1 _ _ _ _ la rfl rfl rfl rfl (by rw [hz2]; omega) (by unfold maxLen; omega) (Nat.le_refl _) ?_; intro w1 hown1 hgrow1; obtain ⟨w2, hrun2, hr2, hb2, hs2⟩ := copy_run w1 22 3 34 Try.underlying22 Try.size34 .u16 _ la _ A EA.out (hA.later ((Below.refl _ _).grown hgrow1 (Nat.le_refl _) (fun k hk => by cases hk))) _ _ hown1 w ((Below.refl _ _).grown hgrow1 (Nat.le_refl _) (fun k hk => by cases hk)); clear hs2 hown1 hgrow1) | (at_make; refine wpList_make_full _ rfl (.tmp 30) (.tmp 30) 22 rfl w2.heap.size 34 i0 (.int .u16 0) 1 Try.underlying22 hi hz0 hz1 _ _ _ _ lb rfl rfl rfl rfl (by rw [hz2]; omega) (by unfold maxLen; omega) (Nat.le_refl _) ?_; intro w3 hown3 hgrow3; obtain ⟨w4, hrun4, hr4, hb4, hs4⟩ := copy_run w3 22 3 34 Try.underlying22 Try.size34 .u16 _ lb _ B EB.out ((hB.later hb2).later ((Below.refl _ _).grown hgrow3 (Nat.le_refl _) (fun k hk => by cases hk))) _ _ hown3 w2 ((Below.refl _ _).grown hgrow3 (Nat.le_refl _) (fun k hk => by cases hk)); clear hs4 hown3 hgrow3))
  have RA : Hid (Row .u16 w4 _ A) := (hr2.later hb4)
  have RB : Hid (Row .u16 w4 _ B) := hr4
  have BW : Below w.heap.size w w4 := hb2.trans (hb4.mono hb2.size)
  have T := trichotomy A B
  rcases T with ⟨t1, t2, t3⟩ | ⟨t1, t2, t3⟩ | ⟨t1, t2, t3⟩
  all_goals
    refine (zzless_any _ _ A B _ RA.out RB.out (by have := EA.out; omega) (by have := EB.out; omega)).mono ?_
    rintro e w5 ⟨rfl, hb5⟩
    go_wp2_with fail
    refine (zzless_any _ _ B A _ (RB.out.later hb5) (RA.out.later hb5) (by have := EB.out; omega) (by have := EA.out; omega)).mono ?_
    rintro e w6 ⟨rfl, hb6⟩
    go_wp2_with fail
    refine (same_any _ _ A B _ ((RA.out.later hb5).later hb6) ((RB.out.later hb5).later hb6) (by have := EA.out; omega)).mono ?_
    rintro e w7 ⟨rfl, hb7⟩
    go_wp2_with fail
    go_ret
    have s4 := BW.size
    have s5 := hb5.size
    have s6 := hb6.size
    exact ⟨rfl, ((BW.trans (hb5.mono (by omega))).trans (hb6.mono (by omega))).trans (hb7.mono (by omega))⟩

theorem walk (a0 : Option Addr) (len0 cap0 : Nat) (z0 : List Int) (a1 : Option Addr) (len1 cap1 : Nat) (z1 : List Int) (w : World) (w0 : IsRow .u16 w a0 len0 cap0 z0) (w1 : IsRow .u16 w a1 len1 cap1 z1) :
    Calls Try.prog 4 #[.slice a0 len0 cap0, .slice a1 len1 cap1] w fun e w' => e = .returned (.bool true) ∧ Below w.heap.size w w' := by
  by_cases h : 131072 < len0 ∨ 131072 < len1
  · exact walk_long a0 a1 len0 cap0 len1 cap1 w h w0.le w1.le
  · have r0 := w0.row
    have r1 := w1.row
    have u0 := w0.units
    have u1 := w1.units
    cases a0 with
    | none =>
      obtain ⟨rfl, rfl⟩ := w0.nil
      cases a1 with
      | none =>
        obtain ⟨rfl, rfl⟩ := w1.nil
        exact walk_nn w
      | some y => exact walk_ns w y len1 cap1 _ r1.1 r1.2 u1 (by omega)
    | some x =>
      cases a1 with
      | none =>
        obtain ⟨rfl, rfl⟩ := w1.nil
        exact walk_sn w x len0 cap0 _ r0.1 r0.2 u0 (by omega)
      | some y => exact walk_ss w x len0 cap0 _ r0.1 r0.2 u0 (by omega) y len1 cap1 _ r1.1 r1.2 u1 (by omega)

/-! ### THE ROW's STEP: WRITTEN OUT: LEAVE IT -/
set_option maxRecDepth 100000 in
theorem lifted (os : Os) (started : os.Started) (H : Type) (enc : TypeId × Value → H) :
    ReturnsInHanded {} Try.checked os 4 .any (Rows.fnLessUnitsStrictTotalOrderSpec.pre6 enc Try.prog Try.f4 Rows.fnLessUnitsStrictTotalOrderRow.domain false) (Rows.fnLessUnitsStrictTotalOrderSpec.post enc Try.prog Try.f4 false true false false) := by
  refine returnsInHanded_of_change (C := Try.checked) own started (by kernel_rfl) Try.func4
    (ChangeSpec.witness6 (enc := enc) (C := Try.checked) false ⟨#[], #[.slice none 0 0, .slice none 0 0], []⟩ 8 (by kernel_rfl) (by kernel_rfl) (by kernel_rfl) (by kernel_rfl)) ?_
  intro W base args ds gs before hval0 hW hcnd _
  have hval : ∀ (j : Nat) t v, Try.f4.params[j]? = some t → args[j]? = some v → Value.okWide Try.prog W .any base t v := hval0
  have hW' := hW
  obtain ⟨p, q, hA0, hV, rfl, hfz, hnd⟩ := hW
  have hA : DataW.TrodAll enc Try.prog W 0 (fun _ => true) true Try.f4.params.toList args.toList ds p := hA0
  rw [Try.params4] at hA hval
  obtain ⟨v0, vs0, d0, ds0, p0, q0, hargs, rfl, rfl, h0, r0⟩ := trodAll_cons hA
  obtain ⟨v1, vs1, d1, ds1, p1, q1, rfl, rfl, rfl, h1, r1⟩ := trodAll_cons r0
  obtain ⟨rfl, rfl, rfl⟩ := trodAll_nil r1
  obtain rfl : args = #[v0, v1] := by cases args; simp_all
  obtain ⟨rfl, rfl⟩ := trodVars_none hV
  obtain ⟨a0, len0, cap0, rfl⟩ := okWide_slice Try.underlying22 (hval 0 22 v0 rfl rfl)
  have k0 := h0
  have lt0 : ∀ x ∈ p0, x.block < W.heap.size := by obtain ⟨m, hm⟩ := k0; exact DataW.trod_lt m _ _ _ hm
  obtain ⟨z0, w0⟩ : ∃ zs, IsRow .u16 W a0 len0 cap0 zs := by
    obtain ⟨fuel, hf⟩ := h0
    rcases open_ints Try.underlying22 Try.underlying34 (by kernel_rfl) hf with ⟨hcs, _⟩ | ⟨x, l, c, zs, hcs, _, hl, hm, hz, _, hcell, hwz⟩
    · simp [Value.cells] at hcs
      obtain ⟨rfl, rfl, rfl⟩ := hcs
      exact ⟨[], .inl ⟨rfl, rfl, rfl, rfl⟩⟩
    · simp [Value.cells] at hcs
      obtain ⟨rfl, rfl, rfl⟩ := hcs
      exact ⟨zs, .inr ⟨_, rfl, hl, hm, by simpa using hz, hcell, hwz⟩⟩
  obtain ⟨a1, len1, cap1, rfl⟩ := okWide_slice Try.underlying22 (hval 1 22 v1 rfl rfl)
  have k1 := h1
  have lt1 : ∀ x ∈ p1, x.block < W.heap.size := by obtain ⟨m, hm⟩ := k1; exact DataW.trod_lt m _ _ _ hm
  obtain ⟨z1, w1⟩ : ∃ zs, IsRow .u16 W a1 len1 cap1 zs := by
    obtain ⟨fuel, hf⟩ := h1
    rcases open_ints Try.underlying22 Try.underlying34 (by kernel_rfl) hf with ⟨hcs, _⟩ | ⟨x, l, c, zs, hcs, _, hl, hm, hz, _, hcell, hwz⟩
    · simp [Value.cells] at hcs
      obtain ⟨rfl, rfl, rfl⟩ := hcs
      exact ⟨[], .inl ⟨rfl, rfl, rfl, rfl⟩⟩
    · simp [Value.cells] at hcs
      obtain ⟨rfl, rfl, rfl⟩ := hcs
      exact ⟨zs, .inr ⟨_, rfl, hl, hm, by simpa using hz, hcell, hwz⟩⟩
  clear hA0 hval0
  refine (walk a0 len0 cap0 z0 a1 len1 cap1 z1 W w0 w1).mono fun e W' ⟨he, bel⟩ => ?_
  subst he
  exact ⟨_, rfl, _, _, _, [], _, [], hW', trodAll_mk1 (shut_bool Try.underlying4 _), (trodAll_cons_mk (Below.trod laidOut (by kernel_rfl) (of_decide_eq_true (by kernel_rfl)) k0 bel lt0) (trodAll_cons_mk (Below.trod laidOut (by kernel_rfl) (of_decide_eq_true (by kernel_rfl)) k1 bel lt1) trodAll_mk0)), rfl, bel.frame _, fun h => by cases h⟩

theorem over : Rows.fnLessUnitsStrictTotalOrderRow.holds Try.pinned (OpenSpec.ofChange Rows.fnLessUnitsStrictTotalOrderSpec) :=
  OpenClaim.holds_of_wide 4 Try.f4 rfl rfl rfl rfl rfl rfl rfl ⟨rfl, rfl, rfl, rfl, rfl⟩ rfl rfl rfl rfl rfl (by kernel_rfl) Try.func4 (by kernel_rfl)
    (of_decide_eq_true (by kernel_rfl)) (by unfold Func.isWrapper; first | (rw [if_pos (by decide +kernel)]; kernel_rfl) | (rw [if_neg (by decide +kernel)]; exact ⟨rfl, rfl⟩))
    (fun os started H enc _ => lifted os started H enc)

/-- ████ THE STATEMENT ████ -/
theorem proved : Rows.FnLessUnitsStrictTotalOrderSaid := over
#print axioms proved
end Go.Proofs.Qxb6600276a.fnLessUnitsStrictTotalOrder
