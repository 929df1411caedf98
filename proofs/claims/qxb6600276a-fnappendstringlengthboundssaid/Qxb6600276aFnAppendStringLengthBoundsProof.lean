/-
  'Rows.FnAppendStringLengthBoundsSaid' ('example.com/toolbooth/toolbooth/zzlaws_internal_jcs_b1.FnAppendStringLengthBounds'), off the given shell.
-/
import Derived.Test.Qxb6600276aRows
import Derived.Test.Qxb6600276aCopy
import Derived.Test.Qxb6600276aCopyB
import Derived.WalkKit
import Derived.WalkSpells
import Derived.WalkLawsBesides
import Derived.ProofKit
import Derived.OpenShut
import Derived.ShutString
import Derived.ChangeOld
import Derived.Below
namespace Go.Proofs.Qxb6600276a.fnAppendStringLengthBounds
open Go.ChangeShapes Go.WideShapes Go.ChangeAt Go.RowKit
open Go.ChangeMaps (open_string shut_string)
set_option linter.unusedVariables false

theorem own : ownKnob Try.prog.godebug = none := by kernel_rfl
theorem laidOut : laidOutB Try.prog = true := by kernel_rfl

/-- Is every byte written as it is? -/
def plainB (c : Int) : Bool := !(decide (c < 32) || decide (c = 34) || decide (c = 92))
def plainL (l : List Int) : Bool := l.all plainB

theorem plainL_snoc (A : List Int) (k : Nat) (h : k < A.length) : plainL (A.take (k + 1)) = (plainL (A.take k) && plainB (A.getD k 0)) := by
  rw [take_snoc' A k h]; simp [plainL]

theorem escB_one (c : Int) : ((escB c).length = 1 ↔ plainB c = true) := by
  unfold escB plainB
  repeat' split
  all_goals simp
  all_goals omega

/-- THE PLAIN LAW. -/
theorem esc_len (l : List Int) : ((escL l).length = l.length ↔ plainL l = true) := by
  induction l with
  | nil => simp [escL, plainL]
  | cons c l ih =>
    have h1 := escB_bd c
    have h2 := escL_bd l
    have h3 := escB_one c
    have e : plainL (c :: l) = (plainB c && plainL l) := by simp [plainL]
    rw [e, Bool.and_eq_true, ← h3, ← ih]
    simp only [escL, List.length_append, List.length_cons]
    omega

/-- The last line of the Go text. -/
theorem len_end (len q sz : Nat) (p : Bool) (L : List Int) (hp : p = plainL L) (h : q = sz ↔ plainL L = true) : ((((len : Int) + ((q : Int) + 2) - (len : Int)) == (sz : Int) + 2) == p) = true := by
  rw [hp, beq_iff_eq, Bool.eq_iff_iff, beq_iff_eq, ← h]
  omega

theorem walk_long (a : Option Addr) (la ca : Nat) (s : ByteArray) (w : World) (h : 262144 < la ∨ 131072 < s.size) (ha : la ≤ maxLen) (hb : s.size ≤ maxLen) :
    Calls Try.prog 8 #[.slice a la ca, .string s] w fun e w' => e = .returned (.bool true) ∧ Below w.heap.size w w' := by
  unfold maxLen at ha hb
  rcases h with h | h
  · go_enter Try.func8, Try.ntmps8
    go_wp2_with (go_at_call 21; go_in)
    all_goals (go_ret; exact ⟨rfl, Below.refl _ _⟩)
  · go_enter Try.func8, Try.ntmps8
    go_wp2_with (go_at_call 21; go_in)
    all_goals (go_ret; exact ⟨rfl, Below.refl _ _⟩)

set_option maxHeartbeats 1000000 in
theorem walk_in (ao : Option Addr) (len cap : Nat) (zs : List Int) (s : ByteArray) (w : World) (hz : zs.length = len) (hrow : Row .u8 w (.slice ao len cap) zs) (hnil : ao = none → len = 0 ∧ cap = 0) (h1 : len ≤ 262144) (h2 : s.size ≤ 131072) :
    Calls Try.prog 8 #[.slice ao len cap, .string s] w fun e w' => e = .returned (.bool true) ∧ Below w.heap.size w w' := by
  have HZ : Hid (zs.length = len) := hz
  have HR : Hid (Row .u8 w (.slice ao len cap) zs) := hrow
  have HN : Hid (ao = none → len = 0 ∧ cap = 0) := hnil
  clear hz hrow hnil
  go_enter Try.func8, Try.ntmps8
  go_wp2_with (go_at_call 21; go_in)
  refine (copyB_any ao len cap zs _ HZ.out HR.out HN.out (by omega)).mono ?_
  rintro e w1 ⟨a1, rfl, hF1, hb1⟩
  go_wp2_with fail
  refine (zzapp_full _ zs s _ hF1 (by have := HZ.out; omega) (by omega)).mono ?_
  rintro e w2 ⟨g, cap2, rfl, hcs, hb2⟩
  have hbel : Below w.heap.size w w2 := hb1.trans (hb2.mono hb1.size)
  clear hcs hb2 hb1 hF1
  rw [HZ.out]
  obtain ⟨L, hL⟩ : ∃ L, L = bytesOf s := ⟨_, rfl⟩
  have HL : Hid (L = bytesOf s) := hL
  have hLs : L.length = s.size := by rw [hL]; exact bytesOf_length s
  have HLs : Hid (L.length = s.size) := hLs
  rw [← hL]
  have hbd := escL_bd L
  obtain ⟨q, hq⟩ : ∃ q, q = (escL L).length := ⟨_, rfl⟩
  have hlen : (esc L).length = q + 2 := by rw [hq]; simp [esc]
  rw [hlen]
  rw [← hq, hLs] at hbd
  obtain ⟨q1, q2⟩ := hbd
  have HQ : Hid (q = s.size ↔ plainL L = true) := by
    have := esc_len L
    rw [← hq, hLs] at this
    exact this
  clear hL hLs hq hlen
  go_wp2_with fail
  go_loop [7, 8] (fun p i => ∃ k : Nat, k ≤ s.size ∧ i = .int .i64 k ∧ p = .bool (plainL (L.take k))) (fun _ i => s.size - (intOf i).toNat)
  case atStart => exact ⟨0, Nat.zero_le _, rfl, rfl⟩
  case round =>
    obtain ⟨k, hk, rfl, rfl⟩ := hrel
    by_cases hlt : k < s.size
    · have hkL : k < L.length := by have := HLs.out; omega
      have hcL : L.getD k 0 = (s[k].toNat : Int) := by rw [HL.out]; exact bytesOf_getD s k hlt
      have hsn : Hid (plainL (L.take (k + 1)) = (plainL (L.take k) && plainB (s[k].toNat : Int))) := by
        have := plainL_snoc L k hkL
        rw [hcL] at this; exact this
      clear hkL hcL
      by_cases c1 : (s[k].toNat : Int) < 32
      · have hp : Hid (plainB (s[k].toNat : Int) = false) := by simp [plainB, Hid, c1]
        go_wp2_with fail
        go_round
        case rel => exact ⟨k + 1, by omega, by go_num, by rw [hsn.out, hp.out, Bool.and_false]⟩
        case measure => simp [intOf]; omega
      · by_cases c2 : (s[k].toNat : Int) = 34
        · have hp : Hid (plainB (s[k].toNat : Int) = false) := by simp [plainB, Hid, c2]
          have b1 : decide ((s[k].toNat : Int) < 32) = false := decide_eq_false c1
          have b2 : ((s[k].toNat : Int) == 34) = true := by simp [c2]
          clear c2 c1
          go_wp2_with fail
          go_round
          case rel => exact ⟨k + 1, by omega, by go_num, by rw [hsn.out, hp.out, Bool.and_false]⟩
          case measure => simp [intOf]; omega
        · by_cases c3 : (s[k].toNat : Int) = 92
          · have hp : Hid (plainB (s[k].toNat : Int) = false) := by simp [plainB, Hid, c3]
            have b1 : decide ((s[k].toNat : Int) < 32) = false := decide_eq_false c1
            have b2 : ((s[k].toNat : Int) == 34) = false := by simp [c2]
            have b3 : ((s[k].toNat : Int) == 92) = true := by simp [c3]
            clear c3 c2 c1
            go_wp2_with fail
            go_round
            case rel => exact ⟨k + 1, by omega, by go_num, by rw [hsn.out, hp.out, Bool.and_false]⟩
            case measure => simp [intOf]; omega
          · have hp : Hid (plainB (s[k].toNat : Int) = true) := by simp only [plainB, Hid]; rw [decide_eq_false c1, decide_eq_false c2, decide_eq_false c3]; rfl
            have b1 : decide ((s[k].toNat : Int) < 32) = false := decide_eq_false c1
            have b2 : ((s[k].toNat : Int) == 34) = false := by simp [c2]
            have b3 : ((s[k].toNat : Int) == 92) = false := by simp [c3]
            clear c3 c2 c1
            go_wp2_with fail
            go_round
            case rel => exact ⟨k + 1, by omega, by go_num, by rw [hsn.out, hp.out, Bool.and_true]⟩
            case measure => simp [intOf]; omega
    · have hall : Hid (plainL (L.take k) = plainL L) := by
        have : k = L.length := by have := HLs.out; omega
        rw [this, List.take_length]; rfl
      go_wp2_with fail
      go_ret
      exact ⟨ret_bool (len_end len q s.size _ L hall.out HQ.out), hbel⟩

theorem walk (a0 : Option Addr) (len0 cap0 : Nat) (z0 : List Int) (a1 : ByteArray) (w : World) (w0 : IsRow .u8 w a0 len0 cap0 z0) (w1 : a1.size ≤ maxLen) :
    Calls Try.prog 8 #[.slice a0 len0 cap0, .string a1] w fun e w' => e = .returned (.bool true) ∧ Below w.heap.size w w' := by
  by_cases h : 262144 < len0 ∨ 131072 < a1.size
  · exact walk_long a0 len0 cap0 a1 w h w0.le w1
  · exact walk_in a0 len0 cap0 _ a1 w w0.row.1 w0.row.2 (fun e => by subst e; exact w0.nil) (by omega) (by omega)

/-! ### THE ROW's STEP: WRITTEN OUT: LEAVE IT -/
set_option maxRecDepth 100000 in
theorem lifted (os : Os) (started : os.Started) (H : Type) (enc : TypeId × Value → H) :
    ReturnsInHanded {} Try.checked os 8 .any (Rows.fnAppendStringLengthBoundsSpec.pre6 enc Try.prog Try.f8 Rows.fnAppendStringLengthBoundsRow.domain false) (Rows.fnAppendStringLengthBoundsSpec.post enc Try.prog Try.f8 false true false false) := by
  refine returnsInHanded_of_change (C := Try.checked) own started (by kernel_rfl) Try.func8
    (ChangeSpec.witness6 (enc := enc) (C := Try.checked) false ⟨#[], #[.slice none 0 0, .string ByteArray.empty], []⟩ 8 (by kernel_rfl) (by kernel_rfl) (by kernel_rfl) (by kernel_rfl)) ?_
  intro W base args ds gs before hval0 hW hcnd _
  have hval : ∀ (j : Nat) t v, Try.f8.params[j]? = some t → args[j]? = some v → Value.okWide Try.prog W .any base t v := hval0
  have hW' := hW
  obtain ⟨p, q, hA0, hV, rfl, hfz, hnd⟩ := hW
  have hA : DataW.TrodAll enc Try.prog W 0 (fun _ => true) true Try.f8.params.toList args.toList ds p := hA0
  rw [Try.params8] at hA hval
  obtain ⟨v0, vs0, d0, ds0, p0, q0, hargs, rfl, rfl, h0, r0⟩ := trodAll_cons hA
  obtain ⟨v1, vs1, d1, ds1, p1, q1, rfl, rfl, rfl, h1, r1⟩ := trodAll_cons r0
  obtain ⟨rfl, rfl, rfl⟩ := trodAll_nil r1
  obtain rfl : args = #[v0, v1] := by cases args; simp_all
  obtain ⟨rfl, rfl⟩ := trodVars_none hV
  obtain ⟨a0, len0, cap0, rfl⟩ := okWide_slice Try.underlying26 (hval 0 26 v0 rfl rfl)
  have k0 := h0
  have lt0 : ∀ x ∈ p0, x.block < W.heap.size := by obtain ⟨m, hm⟩ := k0; exact DataW.trod_lt m _ _ _ hm
  obtain ⟨z0, w0⟩ : ∃ zs, IsRow .u8 W a0 len0 cap0 zs := by
    obtain ⟨fuel, hf⟩ := h0
    rcases open_ints Try.underlying26 Try.underlying5 (by kernel_rfl) hf with ⟨hcs, _⟩ | ⟨x, l, c, zs, hcs, _, hl, hm, hz, _, hcell, hwz⟩
    · simp [Value.cells] at hcs
      obtain ⟨rfl, rfl, rfl⟩ := hcs
      exact ⟨[], .inl ⟨rfl, rfl, rfl, rfl⟩⟩
    · simp [Value.cells] at hcs
      obtain ⟨rfl, rfl, rfl⟩ := hcs
      exact ⟨zs, .inr ⟨_, rfl, hl, hm, by simpa using hz, hcell, hwz⟩⟩
  obtain ⟨a1, rfl, rfl, rfl, w1⟩ := open_string Try.underlying9 (hval 1 9 v1 rfl rfl) h1
  clear hA0 hval0
  refine (walk a0 len0 cap0 z0 a1 W w0 w1).mono fun e W' ⟨he, bel⟩ => ?_
  subst he
  exact ⟨_, rfl, _, _, _, [], _, [], hW', trodAll_mk1 (shut_bool Try.underlying4 _), (trodAll_cons_mk (Below.trod laidOut (by kernel_rfl) (of_decide_eq_true (by kernel_rfl)) k0 bel lt0) (trodAll_cons_mk (shut_string Try.underlying9 w1) trodAll_mk0)), rfl, bel.frame _, fun h => by cases h⟩

theorem over : Rows.fnAppendStringLengthBoundsRow.holds Try.pinned (OpenSpec.ofChange Rows.fnAppendStringLengthBoundsSpec) :=
  OpenClaim.holds_of_wide 8 Try.f8 rfl rfl rfl rfl rfl rfl rfl ⟨rfl, rfl, rfl, rfl, rfl⟩ rfl rfl rfl rfl rfl (by kernel_rfl) Try.func8 (by kernel_rfl)
    (of_decide_eq_true (by kernel_rfl)) (by unfold Func.isWrapper; first | (rw [if_pos (by decide +kernel)]; kernel_rfl) | (rw [if_neg (by decide +kernel)]; exact ⟨rfl, rfl⟩))
    (fun os started H enc _ => lifted os started H enc)

/-- ████ THE STATEMENT ████ -/
theorem proved : Rows.FnAppendStringLengthBoundsSaid := over
#print axioms proved
end Go.Proofs.Qxb6600276a.fnAppendStringLengthBounds
