/-
  The contract of 'zzCopyBytes' (16); 'appendString' over what it hands back.
-/
import Derived.Test.Qxb6600276aRow
import Derived.Test.Qxb6600276aEscPlain
import Derived.Test.Qxb6600276aApp
import Derived.WalkKit
import Derived.WalkSpells
import Derived.WalkLawsBesides
namespace Go.Proofs.Qxb6600276a
open Go.RowKit
set_option linter.unusedVariables false

/-- A SLICE OF BYTES WITHOUT SPARE ROOM: nil, or a row of the call's own whose numbers are zs, its length its capacity. -/
def Full (w : World) (v : Value) (zs : List Int) : Prop :=
  (v = .slice none 0 0 ∧ zs = []) ∨ ∃ g, v = .slice (some ⟨g, 0, none⟩) zs.length zs.length ∧ ∀ j, j < zs.length → w.cell? ⟨g, j, none⟩ = some (.int .u8 (zs.getD j 0))

theorem Full.later {w w' : World} {v : Value} {zs : List Int} (h : Full w v zs) (hb : Below w.heap.size w w') : Full w' v zs := by
  rcases h with h | ⟨g, hv, hc⟩
  · exact .inl h
  · exact .inr ⟨g, hv, fun j hj => cell_later hb (hc j hj)⟩

theorem Full.row {w : World} {v : Value} {zs : List Int} (h : Full w v zs) : Row .u8 w v zs := by
  rcases h with ⟨rfl, rfl⟩ | ⟨g, rfl, hc⟩
  · exact Row.empty _ _ _ _
  · exact ⟨_, _, rfl, fun _ => ⟨g, 0, rfl, fun i hi => by rw [Nat.zero_add]; exact hc i hi⟩⟩

/-- The row behind k rounds. -/
def fillC (A : List Int) (k : Nat) : List Value := (A.take k).map (Value.int .u8) ++ List.replicate (A.length - k) (.int .u8 0)
theorem fillC_zero (A : List Int) : fillC A 0 = List.replicate A.length (.int .u8 0) := by simp [fillC]
theorem fillC_end (A : List Int) : fillC A A.length = A.map (Value.int .u8) := by simp [fillC]
theorem fillC_left (A : List Int) (k : Nat) (h : k ≤ A.length) : ((A.take k).map (Value.int .u8)).length = k := by simp; omega
theorem fillC_at (A : List Int) (k : Nat) (h : k < A.length) : (fillC A k)[k]? = some (.int .u8 0) := by
  unfold fillC
  rw [List.getElem?_append_right (by rw [fillC_left A k (by omega)]; exact Nat.le_refl _), fillC_left A k (by omega), List.getElem?_replicate, if_pos (by omega)]
theorem fillC_step (A : List Int) (k : Nat) (h : k < A.length) : (fillC A k).set k (.int .u8 (A.getD k 0)) = fillC A (k + 1) := by
  have hl := fillC_left A k (by omega)
  unfold fillC
  rw [show A.length - k = A.length - (k + 1) + 1 from by omega, List.replicate_succ]
  rw [List.set_append_right _ _ (by omega), hl, Nat.sub_self, List.set_cons_zero]
  rw [take_snoc' A k h, List.map_append, List.append_assoc]
  rfl

set_option maxHeartbeats 400000 in
theorem copyB_nil (w : World) : Calls Try.prog 16 #[.slice none 0 0] w fun e w' => e = .returned (.slice none 0 0) ∧ w' = w := by
  have nq : ∀ (w : World) (a : Option Addr) (n c : Nat), (binOp .eql 26 (.slice a n c) (.slice none 0 0)).run Try.prog w = .ok (.bool a.isNone) w := fun w a n c => Lib.run_eql_slice_nil w 26 5 a n c 0 0 Try.underlying26
  go_enter Try.func16, Try.ntmps16
  go_wp2
  go_ret
  exact ⟨rfl, rfl⟩

set_option maxHeartbeats 400000 in
theorem copyB_zero (x : Addr) (c : Nat) (w : World) : Calls Try.prog 16 #[.slice (some x) 0 c] w fun e w' => e = .returned (.slice (some ⟨w.heap.size, 0, none⟩) 0 0) ∧ Below w.heap.size w w' := by
  obtain ⟨i0, hi, hz0, hz1, hz2⟩ := info_parts Try.byte5
  have nq : ∀ (w : World) (a : Option Addr) (n c : Nat), (binOp .eql 26 (.slice a n c) (.slice none 0 0)).run Try.prog w = .ok (.bool a.isNone) w := fun w a n c => Lib.run_eql_slice_nil w 26 5 a n c 0 0 Try.underlying26
  go_enter Try.func16, Try.ntmps16
  go_wp2_with (at_make; refine wpList_make_full _ rfl _ _ 26 rfl w.heap.size 5 i0 (.int .u8 0) 1 Try.underlying26 hi hz0 hz1 _ _ _ _ 0 rfl rfl (by omega) (by omega) (by omega) (by unfold maxLen; omega) (Nat.le_refl _) ?_; intro w1 hown hgrow)
  have hbel : Below w.heap.size w w1 := (Below.refl _ _).grown hgrow (Nat.le_refl _) (fun k hk => by cases hk)
  clear hown hgrow
  go_loop [4] (fun i => i = .int .i64 0) (fun _ => 0)
  case atStart => rfl
  case round =>
    subst hrel
    go_wp2
    go_ret
    exact ⟨rfl, hbel⟩

set_option maxHeartbeats 400000 in
theorem copyB_rows (A : List Int) (n ba oa ca : Nat) (w : World) (hA : A.length = n) (hn : n ≤ 1048576) (hpos : 0 < n) (hcA : ∀ i, i < n → w.cell? ⟨ba, oa + i, none⟩ = some (.int .u8 (A.getD i 0))) :
    Calls Try.prog 16 #[.slice (some ⟨ba, oa, none⟩) n ca] w fun e w' => e = .returned (.slice (some ⟨w.heap.size, 0, none⟩) n n) ∧ (∀ j, j < n → w'.cell? ⟨w.heap.size, j, none⟩ = some (.int .u8 (A.getD j 0))) ∧ Below w.heap.size w w' := by
  obtain ⟨i0, hi, hz0, hz1, hz2⟩ := info_parts Try.byte5
  have nq : ∀ (w : World) (a : Option Addr) (n c : Nat), (binOp .eql 26 (.slice a n c) (.slice none 0 0)).run Try.prog w = .ok (.bool a.isNone) w := fun w a n c => Lib.run_eql_slice_nil w 26 5 a n c 0 0 Try.underlying26
  have hba : ba < w.heap.size := World.block_lt_of_cell? _ _ (hcA 0 hpos)
  have HA : Hid (∀ i, i < n → w.cell? ⟨ba, oa + i, none⟩ = some (.int .u8 (A.getD i 0))) := hcA
  have EA : Hid (A.length = n) := hA
  clear hcA hA
  go_enter Try.func16, Try.ntmps16
  go_wp2_with (at_make; refine wpList_make_full _ rfl _ _ 26 rfl w.heap.size 5 i0 (.int .u8 0) 1 Try.underlying26 hi hz0 hz1 _ _ _ _ n rfl rfl rfl rfl (by rw [hz2]; omega) (by unfold maxLen; omega) (Nat.le_refl _) ?_; intro w1 hown hgrow)
  have hb1 : Below w.heap.size w w1 := (Below.refl _ _).grown hgrow (Nat.le_refl _) (fun k hk => by cases hk)
  have R1 : Hid (w1.ownsRow w.heap.size 5 1 (.slice (some ⟨w.heap.size, 0, none⟩) n n) n (fillC A 0)) := by
    have e : (madeCells (Value.int IntKind.u8 0).cells (n * 1)).toList = fillC A 0 := by
      rw [fillC_zero, Nat.mul_one, EA.out]; exact toList_madeCells_one _ _
    rw [e] at hown; exact hown
  clear hown hgrow
  go_loopw [4] (fun i wr => ∃ k : Nat, k ≤ n ∧ i = .int .i64 k ∧ Hid (wr.ownsRow w.heap.size 5 1 (.slice (some ⟨w.heap.size, 0, none⟩) n n) n (fillC A k)) ∧ Below w.heap.size w wr) (fun i _ => n - (intOf i).toNat)
  case atStart => exact ⟨0, Nat.zero_le _, rfl, R1, hb1⟩
  case round =>
    clear R1 hb1
    obtain ⟨k, hka, rfl, hown, hbel⟩ := hrel
    by_cases hlt : k < n
    · have hkA : k < A.length := by have := EA.out; omega
      obtain ⟨x, hx⟩ : ∃ x, x = A.getD k 0 := ⟨_, rfl⟩
      have c1 : wr.cell? ⟨ba, oa + k, none⟩ = some (.int .u8 x) := by rw [hx]; exact cell_later hbel (HA.out k hlt)
      have q1 : wr.cell? ⟨w.heap.size, k, none⟩ = some (.int .u8 0) := (hown.out.cellAt k (by omega)).trans (fillC_at A k hkA)
      have f1 : wr.frozen? ⟨w.heap.size, k, none⟩ = false := hown.out.frozenAt _
      have R : Hid ((wr.setCell ⟨w.heap.size, k, none⟩ (.int .u8 x)).ownsRow w.heap.size 5 1 (.slice (some ⟨w.heap.size, 0, none⟩) n n) n (fillC A (k + 1))) := by
        have s1 := (hown.out.stored k (.int .u8 x)).1
        rw [hx, fillC_step A k hkA] at s1
        rw [hx]; exact s1
      have RB : Below w.heap.size w (wr.setCell ⟨w.heap.size, k, none⟩ (.int .u8 x)) := hbel.setCell (Nat.le_refl _) _
      clear hx hown hkA
      go_wp2
      go_roundw
      case rel => exact ⟨k + 1, by omega, by go_num, R, RB⟩
      case measure => simp [intOf]; omega
    · have hcells : Hid (∀ j, j < n → wr.cell? ⟨w.heap.size, j, none⟩ = some (.int .u8 (A.getD j 0))) := by
        intro j hj
        have e : k = A.length := by have := EA.out; omega
        have := hown.out.cellAt j (by omega)
        rw [e, fillC_end] at this
        rw [this]
        simp [List.getD, show j < A.length by have := EA.out; omega]
      clear hown
      go_wp2
      go_ret
      exact ⟨rfl, hcells.out, hbel⟩

/-- 'zzCopyBytes(x)': what x read as, without spare room. -/
theorem copyB_any (ao : Option Addr) (len cap : Nat) (zs : List Int) (w : World) (hz : zs.length = len) (hrow : Row .u8 w (.slice ao len cap) zs) (hnil : ao = none → len = 0 ∧ cap = 0) (hn : len ≤ 1048576) :
    Calls Try.prog 16 #[.slice ao len cap] w fun e w' => ∃ a, e = .returned (.slice a len len) ∧ Full w' (.slice a len len) zs ∧ Below w.heap.size w w' := by
  cases ao with
  | none =>
    obtain ⟨rfl, rfl⟩ := hnil rfl
    refine (copyB_nil w).mono fun e w' ⟨he, hw⟩ => ⟨_, he, .inl ⟨rfl, List.eq_nil_of_length_eq_zero hz⟩, ?_⟩
    rw [hw]; exact Below.refl _ _
  | some x =>
    by_cases h0 : len = 0
    · subst h0
      obtain rfl : zs = [] := List.eq_nil_of_length_eq_zero hz
      exact (copyB_zero x cap w).mono fun e w' ⟨he, hb⟩ => ⟨_, he, .inr ⟨_, rfl, fun j hj => by simp at hj⟩, hb⟩
    · obtain ⟨a, c, hv, hc⟩ := hrow
      obtain ⟨b, off, ha, hcell⟩ := hc (fun e => by rw [e] at hz; simp at hz; omega)
      simp only [Value.slice.injEq] at hv
      obtain ⟨hxa, _, _⟩ := hv
      rw [ha] at hxa
      simp only [Option.some.injEq] at hxa
      subst hxa
      refine (copyB_rows zs len b off cap w hz hn (by omega) (by rw [← hz]; exact hcell)).mono fun e w' ⟨he, hcs, hb⟩ => ⟨_, he, .inr ⟨_, by rw [hz], ?_⟩, hb⟩
      rw [hz]; exact hcs

/-- 'appendString' over a slice without spare room. -/
theorem zzapp_full (v : Value) (zs : List Int) (s : ByteArray) (w : World) (h : Full w v zs) (hn : zs.length ≤ 1048576) (hs : s.size ≤ 1048576) :
    Calls Try.prog 17 #[v, .string s] w fun e w' => ∃ g cap, e = .returned (.slice (some ⟨g, 0, none⟩) (zs.length + (esc (bytesOf s)).length) cap) ∧
      (∀ j, j < zs.length + (esc (bytesOf s)).length → w'.cell? ⟨g, j, none⟩ = some (.int .u8 ((zs ++ esc (bytesOf s)).getD j 0))) ∧ Below w.heap.size w w' := by
  have fin : ∀ (e : Ending) (w' : World), (∃ v, e = .returned v ∧ w'.ownsRow w.heap.size 5 1 v (zs.length + (esc (bytesOf s)).length) ((zs ++ esc (bytesOf s)).map (Value.int .u8)) ∧ Below w.heap.size w w') →
      ∃ g cap, e = .returned (.slice (some ⟨g, 0, none⟩) (zs.length + (esc (bytesOf s)).length) cap) ∧
      (∀ j, j < zs.length + (esc (bytesOf s)).length → w'.cell? ⟨g, j, none⟩ = some (.int .u8 ((zs ++ esc (bytesOf s)).getD j 0))) ∧ Below w.heap.size w w' := by
    rintro e w' ⟨v, rfl, hown, hb⟩
    obtain ⟨g, cap, rfl, _, _⟩ := hown.form (by simp [esc]; omega)
    refine ⟨g, cap, rfl, fun j hj => ?_, hb⟩
    rw [hown.cellAt j (by omega)]
    have hj' : j < (zs ++ esc (bytesOf s)).length := by rw [List.length_append]; exact hj
    rw [List.getElem?_map, List.getElem?_eq_getElem hj', List.getD, List.getElem?_eq_getElem hj']
    rfl
  rcases h with ⟨rfl, rfl⟩ | ⟨g, rfl, hc⟩
  · exact (zzapp_any none 0 [] s w rfl (fun _ => rfl) (fun b hb => by cases hb) (by omega) hs).mono fin
  · refine (zzapp_any (some ⟨g, 0, none⟩) zs.length zs s w rfl (fun h => by cases h) (fun b hb j hj => ?_) hn hs).mono fin
    obtain rfl := Option.some.inj hb
    rw [Addr.add_lit, Nat.zero_add]; exact hc j hj

end Go.Proofs.Qxb6600276a
