/-
  The contracts of 'zzBigEndian' (11) and 'zzSameUnits' (13).
-/
import Derived.Test.Qxb6600276aRow
import Derived.Test.Qxb6600276aBigPlain
import Derived.WalkKit
import Derived.WalkSpells
import Derived.WalkLawsBesides
import Derived.Laws.BytesArg
import Derived.Deep.QuietTactic
import Derived.BigQuiet
namespace Go.Proofs.Qxb6600276a
open Go.RowKit
set_option linter.unusedVariables false
theorem Try.info5 : (Try.prog.info? 5).map (fun i => (i.zero, i.size, i.bytes)) = some (some (.int .u8 0), 1, 1) := by kernel_rfl

theorem and255 (x : Int) (h0 : 0 ≤ x) (h1 : x ≤ 65535) : bits .and .u16 x 255 = x % 256 := by
  rw [u16_and x 255 h0 (by omega) (by omega) (by omega)]
  have : x.toNat &&& (255 : Int).toNat = x.toNat % 256 := Nat.and_two_pow_sub_one_eq_mod x.toNat 8
  rw [this]; omega

/-- The bytes of a made row as a string. -/
theorem conv_row (wr : World) (g n : Nat) (xs : List Int) (hn : xs.length = n) {B : Nat} (hown : wr.ownsRow B 5 1 (.slice (some ⟨g, 0, none⟩) n n) n (xs.map (Value.int .u8))) :
    (convert 26 9 (.slice (some ⟨g, 0, none⟩) n n)).run Try.prog wr = .ok (.string (strOfNums xs)) wr := by
  refine run_convert_bytes_arg (P := Try.prog) wr 26 5 Try.underlying26 Try.underlying5 g 0 n n xs hn (fun i hi => ?_) 9 Try.underlying9
  rw [Nat.zero_add, hown.cellAt i (by omega)]
  simp [List.getD, show i < xs.length by omega]

set_option maxHeartbeats 400000 in
theorem big_zero (a : Option Addr) (ca : Nat) (w : World) :
    Calls Try.prog 11 #[.slice a 0 ca] w fun e w' => e = .returned (.string (strOfNums [])) ∧ Below w.heap.size w w' := by
  obtain ⟨i0, hi, hz0, hz1, hz2⟩ := info_parts Try.info5
  go_enter Try.func11, Try.ntmps11
  go_wp2_with (at_make; refine wpList_make_full _ rfl _ _ 26 rfl w.heap.size 5 i0 (.int .u8 0) 1 Try.underlying26 hi hz0 hz1 _ _ _ _ 0 rfl rfl (by omega) (by omega) (by omega) (by unfold maxLen; omega) (Nat.le_refl _) ?_; intro w1 hown hgrow)
  have hbel : Below w.heap.size w w1 := (Below.refl _ _).grown hgrow (Nat.le_refl _) (fun k hk => by cases hk)
  have hcv := conv_row w1 w.heap.size 0 [] rfl (B := w.heap.size) (by simpa [madeCells] using hown)
  clear hown hgrow
  go_loop [4] (fun i => i = .int .i64 0) (fun _ => 0)
  case atStart => rfl
  case round =>
    subst hrel
    go_wp2
    go_ret
    exact ⟨rfl, hbel⟩

set_option maxHeartbeats 400000 in
theorem big_rows (A : List Int) (ba oa ca : Nat) (w : World) (ha : A.length ≤ 1048576) (hu : Units A) (hpos : A ≠ [])
    (hcA : ∀ i, i < A.length → w.cell? ⟨ba, oa + i, none⟩ = some (.int .u16 (A.getD i 0))) :
    Calls Try.prog 11 #[.slice (some ⟨ba, oa, none⟩) A.length ca] w fun e w' => e = .returned (.string (strOfNums (bigE A))) ∧ Below w.heap.size w w' := by
  obtain ⟨i0, hi, hz0, hz1, hz2⟩ := info_parts Try.info5
  have hba : ba < w.heap.size := World.block_lt_of_cell? _ _ (hcA 0 (List.length_pos_iff.2 hpos))
  have HA : Hid (∀ i, i < A.length → w.cell? ⟨ba, oa + i, none⟩ = some (.int .u16 (A.getD i 0))) := hcA
  have HU : Hid (Units A) := hu
  clear hcA hu hpos
  obtain ⟨la, hla⟩ : ∃ la, la = A.length := ⟨_, rfl⟩
  rw [← hla]
  rw [← hla] at ha
  have Hla : Hid (la = A.length) := hla
  clear hla
  go_enter Try.func11, Try.ntmps11
  go_wp2_with (at_make; refine wpList_make_full _ rfl _ _ 26 rfl w.heap.size 5 i0 (.int .u8 0) 1 Try.underlying26 hi hz0 hz1 _ _ _ _ (2 * la) rfl rfl (by omega) (by omega) (by rw [hz2]; omega) (by unfold maxLen; omega) (Nat.le_refl _) ?_; intro w1 hown hgrow)
  have hb1 : Below w.heap.size w w1 := (Below.refl _ _).grown hgrow (Nat.le_refl _) (fun k hk => by cases hk)
  have R1 : Hid (w1.ownsRow w.heap.size 5 1 (.slice (some ⟨w.heap.size, 0, none⟩) (2 * la) (2 * la)) (2 * la) (fill A 0)) := by
    have e : (madeCells (Value.int IntKind.u8 0).cells (2 * la * 1)).toList = fill A 0 := by
      rw [fill_zero, Nat.mul_one, Hla.out]; exact toList_madeCells_one _ _
    rw [e] at hown; exact hown
  clear hown hgrow
  go_loopw [4] (fun i wr => ∃ k : Nat, k ≤ la ∧ i = .int .i64 k ∧ Hid (wr.ownsRow w.heap.size 5 1 (.slice (some ⟨w.heap.size, 0, none⟩) (2 * la) (2 * la)) (2 * la) (fill A k)) ∧ Below w.heap.size w wr) (fun i _ => la - (intOf i).toNat)
  case atStart => exact ⟨0, Nat.zero_le _, rfl, R1, hb1⟩
  case round =>
    clear R1 hb1
    obtain ⟨k, hka, rfl, hown, hbel⟩ := hrel
    by_cases hlt : k < la
    · have hkA : k < A.length := by have := Hla.out; omega
      obtain ⟨x, hx⟩ : ∃ x, x = A.getD k 0 := ⟨_, rfl⟩
      have hxm : A.getD k 0 ∈ A := by simp [List.getD, hkA]
      have hxb := HU.out _ hxm
      rw [← hx] at hxb
      obtain ⟨hx0, hx1⟩ := hxb
      have c1 : wr.cell? ⟨ba, oa + k, none⟩ = some (.int .u16 x) := by rw [hx]; exact cell_later hbel (HA.out k hkA)
      have hand := and255 x hx0 hx1
      have q1 : wr.cell? ⟨w.heap.size, 2 * k, none⟩ = some (.int .u8 0) := (hown.out.cellAt (2 * k) (by omega)).trans (fill_at A k (2 * k) (by omega) (by omega) (by omega))
      have q2 : wr.cell? ⟨w.heap.size, 2 * k + 1, none⟩ = some (.int .u8 0) := (hown.out.cellAt (2 * k + 1) (by omega)).trans (fill_at A k (2 * k + 1) (by omega) (by omega) (by omega))
      have f1 : wr.frozen? ⟨w.heap.size, 2 * k, none⟩ = false := hown.out.frozenAt _
      have f2 : wr.frozen? ⟨w.heap.size, 2 * k + 1, none⟩ = false := hown.out.frozenAt _
      have R : Hid (((wr.setCell ⟨w.heap.size, 2 * k, none⟩ (.int .u8 (x / 256))).setCell ⟨w.heap.size, 2 * k + 1, none⟩ (.int .u8 (x % 256))).ownsRow w.heap.size 5 1 (.slice (some ⟨w.heap.size, 0, none⟩) (2 * la) (2 * la)) (2 * la) (fill A (k + 1))) := by
        have s1 := (hown.out.stored (2 * k) (.int .u8 (x / 256))).1
        have s2 := (s1.stored (2 * k + 1) (.int .u8 (x % 256))).1
        rw [hx, fill_step A k hkA] at s2
        rw [hx]; exact s2
      have RB : Below w.heap.size w ((wr.setCell ⟨w.heap.size, 2 * k, none⟩ (.int .u8 (x / 256))).setCell ⟨w.heap.size, 2 * k + 1, none⟩ (.int .u8 (x % 256))) :=
        (hbel.setCell (Nat.le_refl _) _).setCell (Nat.le_refl _) _
      clear hx hxm hown hkA
      go_wp2
      go_roundw
      case rel => exact ⟨k + 1, by omega, by go_num, R, RB⟩
      case measure => simp [intOf]; omega
    · have hcv := conv_row wr w.heap.size (2 * la) (bigE A) (by rw [bigE_length, Hla.out]) (B := w.heap.size) (by
        have e : k = A.length := by have := Hla.out; omega
        have := hown.out
        rw [e, fill_end] at this; exact this)
      clear hown
      go_wp2
      go_ret
      exact ⟨rfl, hbel⟩

theorem big_any (va : Value) (A : List Int) (w : World) (hA : Row .u16 w va A) (ha : A.length ≤ 1048576) (hu : Units A) :
    Calls Try.prog 11 #[va] w fun e w' => e = .returned (.string (strOfNums (bigE A))) ∧ Below w.heap.size w w' := by
  obtain ⟨a, ca, rfl, h1⟩ := hA
  by_cases h0 : A = []
  · subst h0
    exact big_zero a ca w
  · obtain ⟨ba, oa, rfl, hcA⟩ := h1 h0
    exact big_rows A ba oa ca w ha hu h0 hcA

set_option maxHeartbeats 400000 in
/-- The lengths differ. -/
theorem same_len (a b : Option Addr) (la lb ca cb : Nat) (w : World) (h0 : ¬ la = lb) :
    Calls Try.prog 13 #[.slice a la ca, .slice b lb cb] w fun e w' => e = .returned (.bool false) ∧ Below w.heap.size w w' := by
  have hne : ((la : Int) != (lb : Int)) = true := by simp; omega
  go_enter Try.func13, Try.ntmps13
  go_wp2
  go_ret
  exact ⟨rfl, Below.refl _ _⟩

set_option maxHeartbeats 400000 in
/-- Neither has an element. -/
theorem same_zero (a b : Option Addr) (ca cb : Nat) (w : World) :
    Calls Try.prog 13 #[.slice a 0 ca, .slice b 0 cb] w fun e w' => e = .returned (.bool true) ∧ Below w.heap.size w w' := by
  go_enter Try.func13, Try.ntmps13
  go_wp2
  go_loop [5] (fun i => i = .int .i64 0) (fun _ => 0)
  case atStart => rfl
  case round =>
    subst hrel
    go_wp2
    go_ret
    exact ⟨rfl, Below.refl _ _⟩

set_option maxHeartbeats 1000000 in
theorem same_rows (A B : List Int) (la ba oa ca bb ob cb : Nat) (w : World) (ha : la ≤ 1048576) (eA : A.length = la) (eB : B.length = la)
    (hcA : ∀ i, i < la → w.cell? ⟨ba, oa + i, none⟩ = some (.int .u16 (A.getD i 0))) (hcB : ∀ i, i < la → w.cell? ⟨bb, ob + i, none⟩ = some (.int .u16 (B.getD i 0))) :
    Calls Try.prog 13 #[.slice (some ⟨ba, oa, none⟩) la ca, .slice (some ⟨bb, ob, none⟩) la cb] w fun e w' => e = .returned (.bool (sameU A B)) ∧ Below w.heap.size w w' := by
  have HA : Hid (∀ i, i < la → w.cell? ⟨ba, oa + i, none⟩ = some (.int .u16 (A.getD i 0))) := hcA
  have HB : Hid (∀ i, i < la → w.cell? ⟨bb, ob + i, none⟩ = some (.int .u16 (B.getD i 0))) := hcB
  have EA : Hid (A.length = la) := eA
  have EB : Hid (B.length = la) := eB
  clear hcA hcB eA eB
  have hne0 : ((la : Int) != (la : Int)) = false := by simp
  go_enter Try.func13, Try.ntmps13
  go_wp2
  go_loopw [5] (fun i wr => ∃ k : Nat, k ≤ la ∧ i = .int .i64 k ∧ Hid (sameU (A.drop k) (B.drop k) = sameU A B) ∧ Below w.heap.size w wr) (fun i _ => la - (intOf i).toNat)
  case atStart => exact ⟨0, Nat.zero_le _, rfl, rfl, Below.refl _ _⟩
  case round =>
    obtain ⟨k, hka, rfl, hinv, hbel⟩ := hrel
    by_cases h1 : k < la
    · have hk1 : k < A.length := by have := EA.out; omega
      have hk2 : k < B.length := by have := EB.out; omega
      obtain ⟨x, hx⟩ : ∃ x, x = A.getD k 0 := ⟨_, rfl⟩
      obtain ⟨y, hy⟩ : ∃ y, y = B.getD k 0 := ⟨_, rfl⟩
      have c1 : wr.cell? ⟨ba, oa + k, none⟩ = some (.int .u16 x) := by rw [hx]; exact cell_later hbel (HA.out k h1)
      have c2 : wr.cell? ⟨bb, ob + k, none⟩ = some (.int .u16 y) := by rw [hy]; exact cell_later hbel (HB.out k h1)
      have hi1 : (k : Int) < (la : Int) := by omega
      by_cases hxy : x = y
      · have hne : (x != y) = false := by simp [hxy]
        have R : Hid (sameU (A.drop (k + 1)) (B.drop (k + 1)) = sameU A B) := by
          have := sameU_same A B k hk1 hk2 (by rw [← hx, ← hy, hxy]); rw [← this]; exact hinv
        clear hxy hx hy hinv hk1 hk2
        go_wp2
        go_quiet (fail)
        go_wp2
        go_roundw
        case rel => exact ⟨k + 1, by omega, by go_num, R, below_drewN hbel _⟩
        case measure => simp [intOf]; omega
      · have hne : (x != y) = true := by simp [hxy]
        have R : Hid (sameU A B = false) := by
          have := sameU_other A B k hk1 hk2 (by rw [← hx, ← hy]; exact hxy); show _ = _; rw [← this]; exact hinv.symm
        clear hxy hx hy hinv hk1 hk2
        go_wp2
        go_quiet (fail)
        go_wp2
        go_ret
        exact ⟨ret_bool R.out.symm, below_drewN hbel _⟩
    · have R : Hid (sameU A B = true) := by
        have e : k = A.length := by have := EA.out; omega
        have := sameU_end A B (by rw [EA.out, EB.out])
        have q := hinv.out
        rw [e] at q
        show _ = _
        rw [← q, this]
      clear hinv
      go_wp2
      go_ret
      exact ⟨ret_bool R.out.symm, hbel⟩

theorem same_any (va vb : Value) (A B : List Int) (w : World) (hA : Row .u16 w va A) (hB : Row .u16 w vb B) (ha : A.length ≤ 1048576) :
    Calls Try.prog 13 #[va, vb] w fun e w' => e = .returned (.bool (sameU A B)) ∧ Below w.heap.size w w' := by
  obtain ⟨a, ca, rfl, h1⟩ := hA
  obtain ⟨b, cb, rfl, h2⟩ := hB
  by_cases hl : A.length = B.length
  · by_cases h0 : A = []
    · subst h0
      obtain rfl : B = [] := List.eq_nil_of_length_eq_zero (by rw [← hl]; rfl)
      exact same_zero a b ca cb w
    · have h0' : B ≠ [] := fun h => h0 (List.eq_nil_of_length_eq_zero (by rw [hl, h]; rfl))
      obtain ⟨ba, oa, rfl, hcA⟩ := h1 h0
      obtain ⟨bb, ob, rfl, hcB⟩ := h2 h0'
      have := same_rows A B A.length ba oa ca bb ob cb w ha rfl hl.symm hcA (by rw [hl]; exact hcB)
      rw [← hl]; exact this
  · refine (same_len a b A.length B.length ca cb w hl).mono fun e w' ⟨he, hbel⟩ => ⟨?_, hbel⟩
    rw [he, sameU_len A B hl]

end Go.Proofs.Qxb6600276a
