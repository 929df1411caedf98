/-
  'Rows.FnAppendStringReadsBackCanonicalSaid' ('example.com/toolbooth/toolbooth/zzlaws_internal_jcs_b1.FnAppendStringReadsBackCanonical'), off the given shell.
-/
import Derived.Test.Qxb6600276aRows
import Derived.Test.Qxb6600276aCopy
import Derived.Test.Qxb6600276aCopyB
import Derived.Test.Qxb6600276aCopyC
import Derived.Test.Qxb6600276aRead
import Derived.WalkKit
import Derived.WalkSpells
import Derived.WalkLawsBesides
import Derived.Deep.QuietTactic
import Derived.BigQuiet
import Derived.ProofKit
import Derived.OpenShut
import Derived.ShutString
import Derived.ChangeOld
import Derived.Below
namespace Go.Proofs.Qxb6600276a.fnAppendStringReadsBackCanonical
open Go.ChangeShapes Go.WideShapes Go.ChangeAt Go.RowKit
open Go.ChangeMaps (open_string shut_string)
set_option linter.unusedVariables false

theorem own : ownKnob Try.prog.godebug = none := by kernel_rfl
theorem laidOut : laidOutB Try.prog = true := by kernel_rfl

theorem nums_bytes (s : ByteArray) : strOfNums (bytesOf s) = s := by
  have e : (strOfNums (bytesOf s)).data.toList = s.data.toList := by
    rw [strOfNums_data, bytesOf, List.map_map]
    refine (List.map_congr_left (g := id) fun c _ => ?_).trans (List.map_id s.data.toList)
    simp
  exact Go.WideShapes.bytes_inj e

/-- 'appendString(v, s)' over a slice without spare room, lengths as letters. -/
theorem zzapp_len (v : Value) (zs : List Int) (len : Nat) (s : ByteArray) (w : World) (h : Full w v zs) (hz : zs.length = len) (hn : len ≤ 1048576) (hs : s.size ≤ 1048576) :
    Calls Try.prog 17 #[v, .string s] w fun e w' => ∃ N g cap, e = .returned (.slice (some ⟨g, 0, none⟩) (len + N) cap) ∧ Hid ((esc (bytesOf s)).length = N) ∧ 2 ≤ N ∧ N ≤ 6 * s.size + 2 ∧ len + N ≤ cap ∧ cap ≤ maxLen ∧
      Hid (∀ j, j < len + N → w'.cell? ⟨g, j, none⟩ = some (.int .u8 ((zs ++ esc (bytesOf s)).getD j 0))) ∧ Below w.heap.size w w' := by
  subst hz
  refine (zzapp_roomy v zs s w h hn hs).mono fun e w' ⟨g, cap, he, h1, h2, h3, h4⟩ => ⟨_, g, cap, he, rfl, (esc_length _).1, ?_, h1, h2, h3, h4⟩
  have := (esc_length (bytesOf s)).2
  rw [bytesOf_length] at this; exact this

theorem getD_left (A B : List Int) (j : Nat) (h : j < A.length) : (A ++ B).getD j 0 = A.getD j 0 := by
  simp only [List.getD]; rw [List.getElem?_append_left h]
theorem getD_right (A B : List Int) (n j : Nat) (h : A.length = n) : (A ++ B).getD (n + j) 0 = B.getD j 0 := by
  simp only [List.getD]; rw [List.getElem?_append_right (by omega), show n + j - A.length = j from by omega]

theorem walk_long (a : Option Addr) (la ca : Nat) (s : ByteArray) (w : World) (h : 262144 < la ∨ 131072 < s.size) (ha : la ≤ maxLen) (hb : s.size ≤ maxLen) :
    Calls Try.prog 6 #[.slice a la ca, .string s] w fun e w' => e = .returned (.bool true) ∧ Below w.heap.size w w' := by
  unfold maxLen at ha hb
  rcases h with h | h
  · go_enter Try.func6, Try.ntmps6
    go_wp2_with (go_at_call 15; go_in)
    all_goals (go_ret; exact ⟨rfl, Below.refl _ _⟩)
  · go_enter Try.func6, Try.ntmps6
    go_wp2_with (go_at_call 15; go_in)
    all_goals (go_ret; exact ⟨rfl, Below.refl _ _⟩)

/-- 'zzCopyBytes(x)', x not nil: a row of the call's own. -/
theorem copyB_some (x : Addr) (len cap : Nat) (zs : List Int) (w : World) (hz : zs.length = len) (hrow : Row .u8 w (.slice (some x) len cap) zs) (hn : len ≤ 1048576) :
    Calls Try.prog 16 #[.slice (some x) len cap] w fun e w' => ∃ g, e = .returned (.slice (some ⟨g, 0, none⟩) len len) ∧ Hid (∀ j, j < len → w'.cell? ⟨g, j, none⟩ = some (.int .u8 (zs.getD j 0))) ∧ Below w.heap.size w w' := by
  by_cases h0 : len = 0
  · subst h0
    exact (copyB_zero x cap w).mono fun e w' ⟨he, hb⟩ => ⟨_, he, fun j hj => absurd hj (by omega), hb⟩
  · obtain ⟨a, c, hv, hc⟩ := hrow
    obtain ⟨b, off, ha, hcell⟩ := hc (fun e => by rw [e] at hz; simp at hz; omega)
    simp only [Value.slice.injEq] at hv
    obtain ⟨hxa, _, _⟩ := hv
    rw [ha] at hxa
    simp only [Option.some.injEq] at hxa
    subst hxa
    exact (copyB_rows zs len b off cap w hz hn (by omega) (by rw [← hz]; exact hcell)).mono fun e w' ⟨he, hcs, hb⟩ => ⟨_, he, hcs, hb⟩

set_option maxHeartbeats 1000000 in
theorem walk_nil (s : ByteArray) (w : World) (h2 : s.size ≤ 131072) :
    Calls Try.prog 6 #[.slice none 0 0, .string s] w fun e w' => e = .returned (.bool true) ∧ Below w.heap.size w w' := by
  have hcn : Calls Try.prog 16 #[.slice none 0 0] w fun e w' => e = .returned (.slice none 0 0) ∧ w = w' := (copyB_nil w).mono fun e w' ⟨p1, p2⟩ => ⟨p1, p2.symm⟩
  go_enter Try.func6, Try.ntmps6
  go_wp2_with (go_at_call 15; go_in)
  refine hcn.mono ?_
  rintro e w1 ⟨rfl, rfl⟩
  clear hcn
  go_wp2_with fail
  refine (zzapp_nilH s _ (by omega)).mono ?_
  rintro e w2 ⟨N, g, cap2, rfl, hN, hN2, hNb, hle, hcm, hcs, hb2⟩
  unfold maxLen at hcm
  go_wp2_with fail
  go_loop [6] (fun i => i = .int .i64 0) (fun _ => 0)
  case atStart => rfl
  case round =>
    subst hrel
    go_wp2_with fail
    refine (read_any (bytesOf s) g 0 N _ _ (bytesOf_bd s) hN.out (by omega) (by intro j hj; rw [Nat.zero_add]; exact hcs.out j hj)).mono ?_
    rintro e w3 ⟨rfl, hb3⟩
    go_wp2_with fail
    go_ret
    exact ⟨ret_bool (by rw [nums_bytes]; exact beq_self_eq_true _), hb2.trans (hb3.mono hb2.size)⟩

set_option maxHeartbeats 1000000 in
theorem walk_some (x : Addr) (len cap : Nat) (zs : List Int) (s : ByteArray) (w : World) (hz : zs.length = len) (hrow : Row .u8 w (.slice (some x) len cap) zs) (h1 : len ≤ 262144) (h2 : s.size ≤ 131072) :
    Calls Try.prog 6 #[.slice (some x) len cap, .string s] w fun e w' => e = .returned (.bool true) ∧ Below w.heap.size w w' := by
  have HZ : Hid (zs.length = len) := hz
  have HR : Hid (Row .u8 w (.slice (some x) len cap) zs) := hrow
  clear hz hrow
  go_enter Try.func6, Try.ntmps6
  go_wp2_with (go_at_call 15; go_in)
  refine (copyB_some x len cap zs _ HZ.out HR.out (by omega)).mono ?_
  rintro e w1 ⟨g1, rfl, hc1, hb1⟩
  have hF1 : Full w1 (.slice (some ⟨g1, 0, none⟩) len len) zs := .inr ⟨g1, by rw [HZ.out], by rw [HZ.out]; exact hc1⟩
  go_wp2_with fail
  refine (zzapp_len _ zs len s _ hF1 HZ.out (by omega) (by omega)).mono ?_
  rintro e w2 ⟨N, g, cap2, rfl, hN, hN2, hNb, hle, hcm, hcs, hb2⟩
  have hc2 : Hid (∀ j, j < len → w2.cell? ⟨g1, j, none⟩ = some (.int .u8 (zs.getD j 0))) := fun j hj => cell_later hb2 (hc1.out j hj)
  have hbw : Below w.heap.size w w2 := hb1.trans (hb2.mono hb1.size)
  unfold maxLen at hcm
  clear hF1 hc1 hb1 hb2
  go_wp2_with fail
  go_loopw [6] (fun i wr => ∃ k : Nat, k ≤ len ∧ i = .int .i64 k ∧ Below w2.heap.size w2 wr) (fun i _ => len - (intOf i).toNat)
  case atStart => exact ⟨0, Nat.zero_le _, rfl, Below.refl _ _⟩
  case round =>
    obtain ⟨k, hk, rfl, hbel⟩ := hrel
    by_cases hlt : k < len
    · obtain ⟨c, hc⟩ : ∃ c, c = zs.getD k 0 := ⟨_, rfl⟩
      have q1 : wr.cell? ⟨g1, k, none⟩ = some (.int .u8 c) := by rw [hc]; exact cell_later hbel (hc2.out k hlt)
      have q2 : wr.cell? ⟨g, k, none⟩ = some (.int .u8 c) := by
        have := hcs.out k (by omega)
        rw [getD_left zs _ k (by have := HZ.out; omega)] at this
        rw [hc]; exact cell_later hbel this
      have hi1 : (k : Int) < (len : Int) := by omega
      have hi2 : (k : Int) < (len : Int) + (N : Int) := by omega
      have hne : (c != c) = false := by simp
      clear hc
      go_wp2_with fail
      go_quiet (fail)
      go_wp2_with fail
      go_roundw
      case rel => exact ⟨k + 1, by omega, by go_num, below_drewN hbel _⟩
      case measure => simp [intOf]; omega
    · go_wp2_with fail
      have hcr : ∀ j, j < N → wr.cell? ⟨g, len + j, none⟩ = some (.int .u8 ((esc (bytesOf s)).getD j 0)) := by
        intro j hj
        have := hcs.out (len + j) (by omega)
        rw [getD_right zs _ len j HZ.out] at this
        exact cell_later hbel this
      refine (read_any (bytesOf s) g len N _ _ (bytesOf_bd s) hN.out (by omega) hcr).mono ?_
      rintro e w3 ⟨rfl, hb3⟩
      clear hcr
      go_wp2_with fail
      go_ret
      have s2 := hbw.size
      have s3 := hbel.size
      exact ⟨ret_bool (by rw [nums_bytes]; exact beq_self_eq_true _), (hbw.trans (hbel.mono s2)).trans (hb3.mono (by omega))⟩

theorem walk (a0 : Option Addr) (len0 cap0 : Nat) (z0 : List Int) (a1 : ByteArray) (w : World) (w0 : IsRow .u8 w a0 len0 cap0 z0) (w1 : a1.size ≤ maxLen) :
    Calls Try.prog 6 #[.slice a0 len0 cap0, .string a1] w fun e w' => e = .returned (.bool true) ∧ Below w.heap.size w w' := by
  by_cases h : 262144 < len0 ∨ 131072 < a1.size
  · exact walk_long a0 len0 cap0 a1 w h w0.le w1
  · cases a0 with
    | none =>
      obtain ⟨rfl, rfl⟩ := w0.nil
      exact walk_nil a1 w (by omega)
    | some x => exact walk_some x len0 cap0 _ a1 w w0.row.1 w0.row.2 (by omega) (by omega)

/-! ### THE ROW's STEP: WRITTEN OUT: LEAVE IT -/
set_option maxRecDepth 100000 in
theorem lifted (os : Os) (started : os.Started) (H : Type) (enc : TypeId × Value → H) :
    ReturnsInHanded {} Try.checked os 6 .any (Rows.fnAppendStringReadsBackCanonicalSpec.pre6 enc Try.prog Try.f6 Rows.fnAppendStringReadsBackCanonicalRow.domain false) (Rows.fnAppendStringReadsBackCanonicalSpec.post enc Try.prog Try.f6 false true false false) := by
  refine returnsInHanded_of_change (C := Try.checked) own started (by kernel_rfl) Try.func6
    (ChangeSpec.witness6 (enc := enc) (C := Try.checked) false ⟨#[], #[.slice none 0 0, .string ByteArray.empty], []⟩ 8 (by kernel_rfl) (by kernel_rfl) (by kernel_rfl) (by kernel_rfl)) ?_
  intro W base args ds gs before hval0 hW hcnd _
  have hval : ∀ (j : Nat) t v, Try.f6.params[j]? = some t → args[j]? = some v → Value.okWide Try.prog W .any base t v := hval0
  have hW' := hW
  obtain ⟨p, q, hA0, hV, rfl, hfz, hnd⟩ := hW
  have hA : DataW.TrodAll enc Try.prog W 0 (fun _ => true) true Try.f6.params.toList args.toList ds p := hA0
  rw [Try.params6] at hA hval
  obtain ⟨v0, vs0, d0, ds0, p0, q0, hargs, rfl, rfl, h0, r0⟩ := trodAll_cons hA
  obtain ⟨v1, vs1, d1, ds1, p1, q1, rfl, rfl, rfl, h1, r1⟩ := trodAll_cons r0
  obtain ⟨rfl, rfl, rfl⟩ := trodAll_nil r1
  obtain rfl : args = #[v0, v1] := by cases args; simp_all
  obtain ⟨rfl, rfl⟩ := trodVars_none hV
  obtain ⟨a0, len0, cap0, rfl⟩ := okWide_slice Try.underlying26 (hval 0 26 v0 rfl rfl)
  have k0 := h0
  have lt0 : ∀ x ∈ p0, x.block < W.heap.size := by obtain ⟨m, hm⟩ := k0; exact DataW.trod_lt m _ _ _ hm
  obtain ⟨z0, w0⟩ : ∃ zs, IsRow .u8 W a0 len0 cap0 zs := by
    obtain ⟨fuel, hf⟩ := h0
    rcases open_ints Try.underlying26 Try.underlying5 (by kernel_rfl) hf with ⟨hcs, _⟩ | ⟨x, l, c, zs, hcs, _, hl, hm, hz, _, hcell, hwz⟩
    · simp [Value.cells] at hcs
      obtain ⟨rfl, rfl, rfl⟩ := hcs
      exact ⟨[], .inl ⟨rfl, rfl, rfl, rfl⟩⟩
    · simp [Value.cells] at hcs
      obtain ⟨rfl, rfl, rfl⟩ := hcs
      exact ⟨zs, .inr ⟨_, rfl, hl, hm, by simpa using hz, hcell, hwz⟩⟩
  obtain ⟨a1, rfl, rfl, rfl, w1⟩ := open_string Try.underlying9 (hval 1 9 v1 rfl rfl) h1
  clear hA0 hval0
  refine (walk a0 len0 cap0 z0 a1 W w0 w1).mono fun e W' ⟨he, bel⟩ => ?_
  subst he
  exact ⟨_, rfl, _, _, _, [], _, [], hW', trodAll_mk1 (shut_bool Try.underlying4 _), (trodAll_cons_mk (Below.trod laidOut (by kernel_rfl) (of_decide_eq_true (by kernel_rfl)) k0 bel lt0) (trodAll_cons_mk (shut_string Try.underlying9 w1) trodAll_mk0)), rfl, bel.frame _, fun h => by cases h⟩

theorem over : Rows.fnAppendStringReadsBackCanonicalRow.holds Try.pinned (OpenSpec.ofChange Rows.fnAppendStringReadsBackCanonicalSpec) :=
  OpenClaim.holds_of_wide 6 Try.f6 rfl rfl rfl rfl rfl rfl rfl ⟨rfl, rfl, rfl, rfl, rfl⟩ rfl rfl rfl rfl rfl (by kernel_rfl) Try.func6 (by kernel_rfl)
    (of_decide_eq_true (by kernel_rfl)) (by unfold Func.isWrapper; first | (rw [if_pos (by decide +kernel)]; kernel_rfl) | (rw [if_neg (by decide +kernel)]; exact ⟨rfl, rfl⟩))
    (fun os started H enc _ => lifted os started H enc)

/-- ████ THE STATEMENT ████ -/
theorem proved : Rows.FnAppendStringReadsBackCanonicalSaid := over
#print axioms proved
end Go.Proofs.Qxb6600276a.fnAppendStringReadsBackCanonical
