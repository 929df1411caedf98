/-
  'Rows.FnAppendStringSplitsOverConcatenationSaid' ('example.com/toolbooth/toolbooth/zzlaws_internal_jcs_b1.FnAppendStringSplitsOverConcatenation'), off the given shell.
-/
import Derived.Test.Qxb6600276aRows
import Derived.Test.Qxb6600276aCopy
import Derived.Test.Qxb6600276aCopyB
import Derived.Test.Qxb6600276aCopyC
import Derived.Test.Qxb6600276aSameB
import Derived.WalkKit
import Derived.WalkSpells
import Derived.WalkLawsBesides
import Derived.Deep.RegionWith
import Derived.Laws.BytesArg
import Derived.ProofKit
import Derived.OpenShut
import Derived.ShutString
import Derived.ChangeOld
import Derived.Below
namespace Go.Proofs.Qxb6600276a.fnAppendStringSplitsOverConcatenation
open Go.ChangeShapes Go.WideShapes Go.ChangeAt Go.RowKit
open Go.ChangeMaps (open_string shut_string)
set_option linter.unusedVariables false

theorem own : ownKnob Try.prog.godebug = none := by kernel_rfl
theorem laidOut : laidOutB Try.prog = true := by kernel_rfl

theorem split_left (a b : ByteArray) (k : Nat) (h : k < a.size) : (bytesOf a ++ bytesOf b).getD k 0 = (a[k].toNat : Int) := by
  rw [← bytesOf_getD a k h]
  simp only [List.getD]
  rw [List.getElem?_append_left (by rw [bytesOf_length]; exact h)]
theorem split_right (a b : ByteArray) (k : Nat) (h : k < b.size) : (bytesOf a ++ bytesOf b).getD (a.size + k) 0 = (b[k].toNat : Int) := by
  rw [← bytesOf_getD b k h]
  simp only [List.getD]
  rw [List.getElem?_append_right (by rw [bytesOf_length]; omega), bytesOf_length, show a.size + k - a.size = k from by omega]

theorem sameU_refl (A : List Int) : sameU A A = true := by
  induction A with
  | nil => rfl
  | cons a A ih => rw [sameU, if_pos rfl]; exact ih

/-- THE PLAIN LAW: a's JSON string without its closing quote, then b's without its opening quote. -/
theorem esc_split (A B : List Int) (n : Nat) (h : (esc A).length = n) : esc (A ++ B) = (esc A).take (n - 1) ++ (esc B).drop 1 := by
  have e : (esc A).take (n - 1) = 34 :: escL A := by
    rw [← h]
    simp only [esc, List.length_cons, List.length_append, List.length_nil]
    rw [show (escL A).length + (0 + 1) + 1 - 1 = (34 :: escL A).length from by simp, ← List.cons_append, List.take_left]
  rw [e]
  simp [esc, escL_append]

/-- Cells of a row, cut at its end or at its head. -/
theorem cut_cells {w : World} {g n : Nat} {E : List Int} (hn : E.length = n) (hc : ∀ j, j < n → w.cell? ⟨g, j, none⟩ = some (.int .u8 (E.getD j 0))) (o m : Nat) (hm : o + m ≤ n) :
    ∀ ad, (some ⟨g, o, none⟩ : Option Addr) = some ad → ∀ t u, (((E.drop o).take m).map (Value.int .u8))[t]? = some u → w.cell? (ad.add t) = some u := by
  intro ad had t u hu
  obtain rfl := Option.some.inj had
  have ht : t < m := by
    have := (List.getElem?_eq_some_iff.1 hu).1
    simp at this; omega
  rw [Addr.add_lit, hc (o + t) (by omega), ← hu]
  simp [List.getD, ht, show o + t < E.length by omega]

/-- The two sides of the law are one list. -/
theorem sides (zs A B J : List Int) (na nb : Nat) (hJ : J = A ++ B) (ha : (esc A).length = na) (hb : (esc B).length = nb) :
    zs ++ ((esc A).drop 0).take (na - 1) ++ ((esc B).drop 1).take (nb - 1) = zs ++ esc J := by
  rw [hJ, esc_split A B na ha, List.drop_zero, List.append_assoc]
  rw [List.take_of_length_le (l := (esc B).drop 1) (by simp; omega)]

set_option maxHeartbeats 4000000 in
theorem walk_in (ao : Option Addr) (len cap : Nat) (zs : List Int) (a b : ByteArray) (w : World) (hz : zs.length = len) (hrow : Row .u8 w (.slice ao len cap) zs) (hnil : ao = none → len = 0 ∧ cap = 0) (h1 : len ≤ 262144) (h2 : a.size ≤ 32768) (h3 : b.size ≤ 32768) :
    Calls Try.prog 7 #[.slice ao len cap, .string a, .string b] w fun e w' => e = .returned (.bool true) ∧ Below w.heap.size w w' := by
  obtain ⟨i0, hi, hz0, hz1, hz2⟩ := info_parts Try.byte5
  have HZ : Hid (zs.length = len) := hz
  have HR : Hid (Row .u8 w (.slice ao len cap) zs) := hrow
  have HN : Hid (ao = none → len = 0 ∧ cap = 0) := hnil
  clear hz hrow hnil
  obtain ⟨J, hJ⟩ : ∃ J, J = bytesOf a ++ bytesOf b := ⟨_, rfl⟩
  have HJ : Hid (J = bytesOf a ++ bytesOf b) := hJ
  have HJl : Hid (J.length = a.size + b.size) := by show _ = _; rw [hJ]; simp [bytesOf_length]
  clear hJ
  go_enter Try.func7, Try.ntmps7
  go_wp2_with (go_at_call 19; go_in)
  refine (copyB_any ao len cap zs _ HZ.out HR.out HN.out (by omega)).mono ?_
  rintro e w1 ⟨a1, rfl, hF1, hb1⟩
  have HF1 : Hid (Full w1 (.slice a1 len len) zs) := hF1
  clear hF1
  go_wp2_with (at_make; refine wpList_make_full _ rfl (.tmp 34) (.tmp 34) 26 rfl w1.heap.size 5 i0 (.int .u8 0) 1 Try.underlying26 hi hz0 hz1 _ _ _ _ (a.size + b.size) rfl rfl (by omega) (by omega) (by rw [hz2]; omega) (by unfold maxLen; omega) (Nat.le_refl _) ?_; intro w2 hown2 hgrow2)
  have hb2 : Below w1.heap.size w1 w2 := (Below.refl _ _).grown hgrow2 (Nat.le_refl _) (fun k hk => by cases hk)
  have R2 : Hid (w2.ownsRow w1.heap.size 5 1 (.slice (some ⟨w1.heap.size, 0, none⟩) (a.size + b.size) (a.size + b.size)) (a.size + b.size) (fillC J 0)) := by
    have e : (madeCells (Value.int IntKind.u8 0).cells ((a.size + b.size) * 1)).toList = fillC J 0 := by
      rw [fillC_zero, Nat.mul_one, HJl.out]; exact toList_madeCells_one _ _
    rw [e] at hown2; exact hown2
  clear hown2 hgrow2
  go_loopw [8] (fun i wr => ∃ k : Nat, k ≤ a.size ∧ i = .int .i64 k ∧ Hid (wr.ownsRow w1.heap.size 5 1 (.slice (some ⟨w1.heap.size, 0, none⟩) (a.size + b.size) (a.size + b.size)) (a.size + b.size) (fillC J k)) ∧ Below w1.heap.size w1 wr) (fun i _ => a.size - (intOf i).toNat)
  case atStart => exact ⟨0, Nat.zero_le _, rfl, R2, hb2⟩
  case round =>
    clear R2 hb2
    obtain ⟨k, hka, rfl, hown, hbel⟩ := hrel
    by_cases hlt : k < a.size
    · have hkJ : k < J.length := by have := HJl.out; omega
      have hx : (a[k].toNat : Int) = J.getD k 0 := by rw [HJ.out, split_left a b k hlt]
      have q1 : wr.cell? ⟨w1.heap.size, k, none⟩ = some (.int .u8 0) := (hown.out.cellAt k (by omega)).trans (fillC_at J k hkJ)
      have f1 : wr.frozen? ⟨w1.heap.size, k, none⟩ = false := hown.out.frozenAt _
      have R : Hid ((wr.setCell ⟨w1.heap.size, k, none⟩ (.int .u8 (a[k].toNat : Int))).ownsRow w1.heap.size 5 1 (.slice (some ⟨w1.heap.size, 0, none⟩) (a.size + b.size) (a.size + b.size)) (a.size + b.size) (fillC J (k + 1))) := by
        have s1 := (hown.out.stored k (.int .u8 (a[k].toNat : Int))).1
        rw [hx, fillC_step J k hkJ] at s1
        rw [hx]; exact s1
      have RB : Below w1.heap.size w1 (wr.setCell ⟨w1.heap.size, k, none⟩ (.int .u8 (a[k].toNat : Int))) := hbel.setCell (Nat.le_refl _) _
      clear hx hown hkJ
      go_wp2_with fail
      go_roundw
      case rel => exact ⟨k + 1, by omega, by go_num, R, RB⟩
      case measure => simp [intOf]; omega
    · have R3 : Hid (wr.ownsRow w1.heap.size 5 1 (.slice (some ⟨w1.heap.size, 0, none⟩) (a.size + b.size) (a.size + b.size)) (a.size + b.size) (fillC J (a.size + 0))) := by
        have e : k = a.size + 0 := by omega
        rw [← e]; exact hown
      clear hown
      go_wp2_with fail
      go_loopw [9] (fun i wr => ∃ k : Nat, k ≤ b.size ∧ i = .int .i64 k ∧ Hid (wr.ownsRow w1.heap.size 5 1 (.slice (some ⟨w1.heap.size, 0, none⟩) (a.size + b.size) (a.size + b.size)) (a.size + b.size) (fillC J (a.size + k))) ∧ Below w1.heap.size w1 wr) (fun i _ => b.size - (intOf i).toNat)
      case atStart => exact ⟨0, Nat.zero_le _, rfl, R3, hbel⟩
      case round =>
        clear R3 hbel hlt hka
        rename_i wr
        obtain ⟨k, hkb, rfl, hown, hbel⟩ := hrel
        by_cases hlt : k < b.size
        · have hkJ : a.size + k < J.length := by have := HJl.out; omega
          have hx : (b[k].toNat : Int) = J.getD (a.size + k) 0 := by rw [HJ.out, split_right a b k hlt]
          have q1 : wr.cell? ⟨w1.heap.size, a.size + k, none⟩ = some (.int .u8 0) := (hown.out.cellAt (a.size + k) (by omega)).trans (fillC_at J (a.size + k) hkJ)
          have f1 : wr.frozen? ⟨w1.heap.size, a.size + k, none⟩ = false := hown.out.frozenAt _
          have R : Hid ((wr.setCell ⟨w1.heap.size, a.size + k, none⟩ (.int .u8 (b[k].toNat : Int))).ownsRow w1.heap.size 5 1 (.slice (some ⟨w1.heap.size, 0, none⟩) (a.size + b.size) (a.size + b.size)) (a.size + b.size) (fillC J (a.size + (k + 1)))) := by
            have s1 := (hown.out.stored (a.size + k) (.int .u8 (b[k].toNat : Int))).1
            rw [hx, fillC_step J (a.size + k) hkJ] at s1
            rw [hx]; exact s1
          have RB : Below w1.heap.size w1 (wr.setCell ⟨w1.heap.size, a.size + k, none⟩ (.int .u8 (b[k].toNat : Int))) := hbel.setCell (Nat.le_refl _) _
          clear hx hown hkJ
          go_wp2_with fail
          go_roundw
          case rel => exact ⟨k + 1, by omega, by go_num, R, RB⟩
          case measure => simp [intOf]; omega
        · have hend : Hid (wr.ownsRow w1.heap.size 5 1 (.slice (some ⟨w1.heap.size, 0, none⟩) (a.size + b.size) (a.size + b.size)) (a.size + b.size) (J.map (Value.int .u8))) := by
            have e : a.size + k = J.length := by have := HJl.out; omega
            have := hown.out
            rw [e, fillC_end] at this; exact this
          clear hown
          have HFr : Hid (Full wr (.slice a1 len len) zs) := HF1.out.later hbel
          obtain ⟨S, hS⟩ : ∃ S, S = strOfNums J := ⟨_, rfl⟩
          have HC : Hid (∀ wx, Below wr.heap.size wr wx → (convert 26 9 (.slice (some ⟨w1.heap.size, 0, none⟩) (a.size + b.size) (a.size + b.size))).run Try.prog wx = .ok (.string S) wx) := by
            intro wx hb
            rw [hS]
            refine run_convert_bytes_arg (P := Try.prog) wx 26 5 Try.underlying26 Try.underlying5 w1.heap.size 0 _ _ J HJl.out (fun i hi => ?_) 9 Try.underlying9
            rw [Nat.zero_add]
            refine cell_later hb ?_
            rw [hend.out.cellAt i (by omega)]
            simp [List.getD, show i < J.length by have := HJl.out; omega]
          have HSJ : Hid (bytesOf S = bytesOf a ++ bytesOf b) := by
            show _ = _
            rw [hS, HJ.out]; exact bytes_back a b
          have hSz : S.size ≤ 1048576 := by rw [hS, strOfNums_size, HJl.out]; omega
          have hcvd := HC.out wr.drew (Below.refl _ _).drew
          clear hS hend
          go_wp2_with fail
          go_region_with (first | (go_at_call 16; refine (copyB_any a1 len len zs _ HZ.out (by exact HFr.out.row) (by exact HFr.out.nil HZ.out) (by omega)).mono ?_; rintro e w3 ⟨a3, rfl, hF3, hb3⟩; have hcv3 := HC.out w3 ((Below.refl _ _).drew.trans hb3)) | (go_at_call 17; refine (zzapp_fullH (.slice a3 len len) zs S _ (by exact hF3) (by have := HZ.out; omega) hSz).mono ?_; rintro e w4 ⟨n4, g4, cap4, rfl, hn4, hr4, hb4⟩))
          all_goals
            have B3 : Below w.heap.size w w3 := (hb1.trans (hbel.mono hb1.size)).trans ((Below.refl _ _).drew.trans (hb3.mono (by have := hb1.size; have := hbel.size; simp; omega)))
            have B4 : Below w.heap.size w w4 := B3.trans (hb4.mono B3.size)
            have HF4 : Hid (Full w4 (.slice a1 len len) zs) := (HFr.out.later ((Below.refl _ _).drew.trans hb3)).later hb4
            clear hcvd hcv3 hF3 hb3 hb4 hbel B3 HFr HC
            go_wp2_with fail
            refine (zzapp_nilH a _ (by omega)).mono ?_
            rintro e w5 ⟨na, ga, capa, rfl, hna, hna2, hnab, hca, hcam, hcsa, hb5⟩
            go_wp2_with fail
            refine (zzapp_nilH b _ (by omega)).mono ?_
            rintro e w6 ⟨nb, gb, capb, rfl, hnb, hnb2, hnbb, hcb, hcbm, hcsb, hb6⟩
            have B6 : Below w4.heap.size w4 w6 := hb5.trans (hb6.mono hb5.size)
            have HF6 : Hid (Full w6 (.slice a1 len len) zs) := HF4.out.later B6
            have hcsa6 : Hid (∀ j, j < na → w6.cell? ⟨ga, j, none⟩ = some (.int .u8 ((esc (bytesOf a)).getD j 0))) := fun j hj => cell_later hb6 (hcsa.out j hj)
            have hr6 : Hid (Row .u8 w6 (.slice (some ⟨g4, 0, none⟩) n4 cap4) (zs ++ esc (bytesOf S))) := hr4.out.later B6
            have B7 : Below w.heap.size w w6 := B4.trans (B6.mono B4.size)
            unfold maxLen at hcam hcbm
            clear hr4 hcsa HF4 hb5 hb6 B4 B6
            go_wp2_with (first | (at_make; refine wpList_make_own _ rfl (.const (.int .i64 0)) (.tmp 87) 26 rfl w6.heap.size 5 i0 (.int .u8 0) 1 Try.underlying26 hi hz0 hz1 _ _ _ (len + na + nb) rfl rfl (by omega) (by rw [hz2]; omega) (by unfold maxLen; omega) (Nat.le_refl _) ?_; intro w7 hown7 hgrow7; have hb7 : Below w6.heap.size w6 w7 := (Below.refl _ _).grown hgrow7 (Nat.le_refl _) (fun k hk => by cases hk)) | (at_builtin; refine wpList_append_fits_any _ rfl (.tmp 89) (.tmp 90) 26 rfl w6.heap.size 5 i0 1 Try.underlying26 hi hz1 w6.heap.size 0 (len + na + nb) [] rfl hown7 a1 len len (zs.map (Value.int .u8)) rfl (by have := HZ.out; simp [this]) (HF6.out.nil HZ.out) (HF6.out.later hb7).cells (ints_oneCell .u8 zs) (by omega) ?_; intro w8 hown8 hgrow8; simp only [Nat.zero_add, List.nil_append] at hown8; have hb8 : Below w6.heap.size w6 w8 := hb7.grown hgrow8 hb7.size (fun k hk => by cases hk; exact Nat.le_refl _)) | (at_builtin; refine wpList_append_fits_any _ rfl (.tmp 92) (.tmp 97) 26 rfl w6.heap.size 5 i0 1 Try.underlying26 hi hz1 w6.heap.size len (len + na + nb) (zs.map (Value.int .u8)) rfl hown8 _ _ _ ((((esc (bytesOf a)).drop 0).take (na - 1)).map (Value.int .u8)) rfl (by have := hna.out; simp [this]) (fun h => by cases h) (cut_cells hna.out (fun j hj => cell_later hb8 (hcsa6.out j hj)) 0 (na - 1) (by omega)) (ints_oneCell .u8 _) (by omega) ?_; intro w9 hown9 hgrow9; have hb9 : Below w6.heap.size w6 w9 := hb8.grown hgrow9 hb8.size (fun k hk => by cases hk; exact Nat.le_refl _)) | (at_builtin; refine wpList_append_fits_any _ rfl (.tmp 99) (.tmp 101) 26 rfl w6.heap.size 5 i0 1 Try.underlying26 hi hz1 w6.heap.size (len + (na - 1)) (len + na + nb) _ rfl hown9 _ _ _ ((((esc (bytesOf b)).drop 1).take (nb - 1)).map (Value.int .u8)) rfl (by have := hnb.out; simp [this]) (fun h => by cases h) (cut_cells hnb.out (fun j hj => cell_later hb9 (hcsb.out j hj)) 1 (nb - 1) (by omega)) (ints_oneCell .u8 _) (by omega) ?_; intro w10 hown10 hgrow10; have hb10 : Below w6.heap.size w6 w10 := hb9.grown hgrow10 hb9.size (fun k hk => by cases hk; exact Nat.le_refl _)))
            rw [← List.map_append, ← List.map_append, sides zs _ _ (bytesOf S) na nb HSJ.out hna.out hnb.out] at hown10
            have hlen := hown10.1
            simp only [List.length_map, Nat.mul_one] at hlen
            have RW := row_of_own hown10
            have R4 := hr6.out.later hb10
            have BF : Below w.heap.size w w10 := B7.trans (hb10.mono B7.size)
            clear hown7 hown8 hown9 hown10 hgrow7 hgrow8 hgrow9 hgrow10 hb7 hb8 hb9 hb10 B7
            refine (sameB_any _ _ _ _ _ R4 RW (by omega)).mono ?_
            rintro e w11 ⟨rfl, hb11⟩
            go_wp2_with fail
            go_ret
            exact ⟨ret_bool (sameU_refl _), BF.trans (hb11.mono BF.size)⟩
theorem walk_long (o : Option Addr) (lo co : Nat) (a b : ByteArray) (w : World) (h : 262144 < lo ∨ 32768 < a.size ∨ 32768 < b.size) (hl : lo ≤ maxLen) (ha : a.size ≤ maxLen) (hb : b.size ≤ maxLen) :
    Calls Try.prog 7 #[.slice o lo co, .string a, .string b] w fun e w' => e = .returned (.bool true) ∧ Below w.heap.size w w' := by
  unfold maxLen at hl ha hb
  rcases h with h | h | h
  · go_enter Try.func7, Try.ntmps7
    go_wp2_with (go_at_call 19; go_in)
    all_goals (go_ret; exact ⟨rfl, Below.refl _ _⟩)
  · go_enter Try.func7, Try.ntmps7
    go_wp2_with (go_at_call 19; go_in)
    all_goals (go_ret; exact ⟨rfl, Below.refl _ _⟩)
  · go_enter Try.func7, Try.ntmps7
    go_wp2_with (go_at_call 19; go_in)
    all_goals (go_ret; exact ⟨rfl, Below.refl _ _⟩)

theorem walk (a0 : Option Addr) (len0 cap0 : Nat) (z0 : List Int) (a1 : ByteArray) (a2 : ByteArray) (w : World) (w0 : IsRow .u8 w a0 len0 cap0 z0) (w1 : a1.size ≤ maxLen) (w2 : a2.size ≤ maxLen) :
    Calls Try.prog 7 #[.slice a0 len0 cap0, .string a1, .string a2] w fun e w' => e = .returned (.bool true) ∧ Below w.heap.size w w' := by
  by_cases h : 262144 < len0 ∨ 32768 < a1.size ∨ 32768 < a2.size
  · exact walk_long a0 len0 cap0 a1 a2 w h w0.le w1 w2
  · exact walk_in a0 len0 cap0 _ a1 a2 w w0.row.1 w0.row.2 (fun e => by subst e; exact w0.nil) (by omega) (by omega) (by omega)

/-! ### THE ROW's STEP: WRITTEN OUT: LEAVE IT -/
set_option maxRecDepth 100000 in
theorem lifted (os : Os) (started : os.Started) (H : Type) (enc : TypeId × Value → H) :
    ReturnsInHanded {} Try.checked os 7 .any (Rows.fnAppendStringSplitsOverConcatenationSpec.pre6 enc Try.prog Try.f7 Rows.fnAppendStringSplitsOverConcatenationRow.domain false) (Rows.fnAppendStringSplitsOverConcatenationSpec.post enc Try.prog Try.f7 false true false false) := by
  refine returnsInHanded_of_change (C := Try.checked) own started (by kernel_rfl) Try.func7
    (ChangeSpec.witness6 (enc := enc) (C := Try.checked) false ⟨#[], #[.slice none 0 0, .string ByteArray.empty, .string ByteArray.empty], []⟩ 8 (by kernel_rfl) (by kernel_rfl) (by kernel_rfl) (by kernel_rfl)) ?_
  intro W base args ds gs before hval0 hW hcnd _
  have hval : ∀ (j : Nat) t v, Try.f7.params[j]? = some t → args[j]? = some v → Value.okWide Try.prog W .any base t v := hval0
  have hW' := hW
  obtain ⟨p, q, hA0, hV, rfl, hfz, hnd⟩ := hW
  have hA : DataW.TrodAll enc Try.prog W 0 (fun _ => true) true Try.f7.params.toList args.toList ds p := hA0
  rw [Try.params7] at hA hval
  obtain ⟨v0, vs0, d0, ds0, p0, q0, hargs, rfl, rfl, h0, r0⟩ := trodAll_cons hA
  obtain ⟨v1, vs1, d1, ds1, p1, q1, rfl, rfl, rfl, h1, r1⟩ := trodAll_cons r0
  obtain ⟨v2, vs2, d2, ds2, p2, q2, rfl, rfl, rfl, h2, r2⟩ := trodAll_cons r1
  obtain ⟨rfl, rfl, rfl⟩ := trodAll_nil r2
  obtain rfl : args = #[v0, v1, v2] := by cases args; simp_all
  obtain ⟨rfl, rfl⟩ := trodVars_none hV
  obtain ⟨a0, len0, cap0, rfl⟩ := okWide_slice Try.underlying26 (hval 0 26 v0 rfl rfl)
  have k0 := h0
  have lt0 : ∀ x ∈ p0, x.block < W.heap.size := by obtain ⟨m, hm⟩ := k0; exact DataW.trod_lt m _ _ _ hm
  obtain ⟨z0, w0⟩ : ∃ zs, IsRow .u8 W a0 len0 cap0 zs := by
    obtain ⟨fuel, hf⟩ := h0
    rcases open_ints Try.underlying26 Try.underlying5 (by kernel_rfl) hf with ⟨hcs, _⟩ | ⟨x, l, c, zs, hcs, _, hl, hm, hz, _, hcell, hwz⟩
    · simp [Value.cells] at hcs
      obtain ⟨rfl, rfl, rfl⟩ := hcs
      exact ⟨[], .inl ⟨rfl, rfl, rfl, rfl⟩⟩
    · simp [Value.cells] at hcs
      obtain ⟨rfl, rfl, rfl⟩ := hcs
      exact ⟨zs, .inr ⟨_, rfl, hl, hm, by simpa using hz, hcell, hwz⟩⟩
  obtain ⟨a1, rfl, rfl, rfl, w1⟩ := open_string Try.underlying9 (hval 1 9 v1 rfl rfl) h1
  obtain ⟨a2, rfl, rfl, rfl, w2⟩ := open_string Try.underlying9 (hval 2 9 v2 rfl rfl) h2
  clear hA0 hval0
  refine (walk a0 len0 cap0 z0 a1 a2 W w0 w1 w2).mono fun e W' ⟨he, bel⟩ => ?_
  subst he
  exact ⟨_, rfl, _, _, _, [], _, [], hW', trodAll_mk1 (shut_bool Try.underlying4 _), (trodAll_cons_mk (Below.trod laidOut (by kernel_rfl) (of_decide_eq_true (by kernel_rfl)) k0 bel lt0) (trodAll_cons_mk (shut_string Try.underlying9 w1) (trodAll_cons_mk (shut_string Try.underlying9 w2) trodAll_mk0))), rfl, bel.frame _, fun h => by cases h⟩

theorem over : Rows.fnAppendStringSplitsOverConcatenationRow.holds Try.pinned (OpenSpec.ofChange Rows.fnAppendStringSplitsOverConcatenationSpec) :=
  OpenClaim.holds_of_wide 7 Try.f7 rfl rfl rfl rfl rfl rfl rfl ⟨rfl, rfl, rfl, rfl, rfl⟩ rfl rfl rfl rfl rfl (by kernel_rfl) Try.func7 (by kernel_rfl)
    (of_decide_eq_true (by kernel_rfl)) (by unfold Func.isWrapper; first | (rw [if_pos (by decide +kernel)]; kernel_rfl) | (rw [if_neg (by decide +kernel)]; exact ⟨rfl, rfl⟩))
    (fun os started H enc _ => lifted os started H enc)

/-- ████ THE STATEMENT ████ -/
theorem proved : Rows.FnAppendStringSplitsOverConcatenationSaid := over
#print axioms proved
end Go.Proofs.Qxb6600276a.fnAppendStringSplitsOverConcatenation
