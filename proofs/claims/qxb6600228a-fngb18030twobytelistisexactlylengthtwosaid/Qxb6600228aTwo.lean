/-
  The contract of 'gb18030TwoByte' (function 23) and of its export (function 12): the slice that comes back owns the 23940 codes in order.
-/
import Derived.Test.Qxb6600228aRows
import Derived.Test.Qxb6600228aPlain
import Derived.WalkKit
import Derived.WalkSpells
import Derived.WalkLawsBesides
import Derived.Laws.BytesArg
namespace Go.Proofs.Qxb6600228a
open Go.RowKit
theorem Try.info9 : (Try.prog.info? 9).map (fun i => (i.zero, i.size, i.bytes)) = some (some (.string ByteArray.empty), 1, 16) := by kernel_rfl

/-- 'string([]byte{f, s})' -/
theorem conv_two (wx : World) (f s : Nat) :
    (convert 27 9 (.slice (some ⟨wx.heap.size, 0, none⟩) 2 2)).run Try.prog (wx.alloc (.cells #[.int .u8 (f : Int), .int .u8 (s : Int)] 5)) = .ok (.string (two f s)) (wx.alloc (.cells #[.int .u8 (f : Int), .int .u8 (s : Int)] 5)) := by
  have h := run_convert_bytes_arg (P := Try.prog) (wx.alloc (.cells #[.int .u8 (f : Int), .int .u8 (s : Int)] 5)) 27 5 Try.underlying27 Try.underlying5 wx.heap.size 0 2 2 [(f : Int), (s : Int)] rfl (by
    intro i hi
    match i, hi with
    | 0, _ => simp [go_sem]
    | 1, _ => simp [go_sem]) 9 Try.underlying9
  rw [h]
  simp [strOfNums, two]

theorem conv_ints (wx : World) (a b : Int) :
    (convert 27 9 (.slice (some ⟨wx.heap.size, 0, none⟩) 2 2)).run Try.prog (wx.alloc (.cells #[.int .u8 a, .int .u8 b] 5)) = .ok (.string (strOfNums [a, b])) (wx.alloc (.cells #[.int .u8 a, .int .u8 b] 5)) := by
  exact run_convert_bytes_arg (P := Try.prog) (wx.alloc (.cells #[.int .u8 a, .int .u8 b] 5)) 27 5 Try.underlying27 Try.underlying5 wx.heap.size 0 2 2 [a, b] rfl (by
    intro i hi
    match i, hi with
    | 0, _ => simp [go_sem]
    | 1, _ => simp [go_sem]) 9 Try.underlying9

set_option maxHeartbeats 400000 in
theorem two_any (w : World) : Calls Try.prog 23 #[] w fun e w' => ∃ v, e = .returned v ∧ w'.ownsRow w.heap.size 9 1 v 23940 (codes 23940) ∧ Below w.heap.size w w' := by
  obtain ⟨i0, hi, hz0, hz1, hz2⟩ := info_parts Try.info9
  have hcv := conv_two
  go_enter Try.func23, Try.ntmps23
  go_wp2
  go_loopw [1, 2] (fun v f wr => ∃ k : Nat, 129 ≤ k ∧ k ≤ 255 ∧ f = .int .i64 k ∧ wr.ownsRow w.heap.size 9 1 v (cnt k 64) (codes (cnt k 64)) ∧ Below w.heap.size w wr) (fun _ f _ => 255 - (intOf f).toNat)
  case atStart => exact ⟨129, by omega, by omega, rfl, World.ownsRow_nil _ _ _ _, Below.refl _ _⟩
  case round =>
    obtain ⟨f, hf1, hf2, rfl, hown, hbel⟩ := hrel
    by_cases hlt : f ≤ 254
    · have hd : decide ((f : Int) ≤ 254) = true := decide_eq_true (by omega)
      go_wp2
      go_loopw [1, 3] (fun v s wr => ∃ k : Nat, 64 ≤ k ∧ k ≤ 255 ∧ s = .int .i64 k ∧ wr.ownsRow w.heap.size 9 1 v (cnt f k) (codes (cnt f k)) ∧ Below w.heap.size w wr) (fun _ s _ => 255 - (intOf s).toNat)
      case atStart => exact ⟨64, by omega, by omega, rfl, hown, hbel⟩
      case round =>
        clear hown hbel
        rename_i wr
        obtain ⟨s, hs1, hs2, rfl, hown, hbel⟩ := hrel
        by_cases hst : s ≤ 254
        · by_cases h7 : s = 127
          · have h7' : Hid (s = 127) := h7
            have h7a : s ≤ 127 := by omega
            have h7b : 127 ≤ s := by omega
            clear h7
            go_wp2_with fail
            go_roundw
            case rel => exact ⟨s + 1, by omega, by omega, by go_num, by have e := h7'.out; subst e; rw [cnt_skip]; exact hown, hbel⟩
            case measure => simp [intOf]; omega
          · have hc := cnt_le f s (by omega) (by omega)
            have hsz := hbel.size
            go_wp2_with (at_builtin; refine wpList_append_own _ rfl _ _ 25 rfl w.heap.size 9 i0 (.string ByteArray.empty) 1 16 Try.underlying25 hi hz0 hz1 hz2 rfl (by decide) _ _ _ rfl ((hown.alloc _).alloc _) ⟨wr.heap.size + 1, 0, none⟩ 1 1 [.string (two f s)] rfl rfl ?c1 ?c2 ?c3 ?c4 ?c5 ?_)
            case c1 =>
              intro j u hj
              match j, hj with
              | 0, hj => simp at hj; subst hj; simp [Addr.add, go_sem]
            case c2 => intro u hu; simp at hu; subst hu; rfl
            case c3 => unfold maxLen; omega
            case c4 => omega
            case c5 => simp; omega
            · intro v' w1 hown' hgrow _
              have R1 : w1.ownsRow w.heap.size 9 1 v' (cnt f (s + 1)) (codes (cnt f (s + 1))) := by
                rw [cnt_succ f s hs1 h7, codes_succ, cnt_code f s hf1 hs1 hst h7]; exact hown'
              have R2 : Below w.heap.size w w1 := ((hbel.alloc hsz _).alloc (by simp; omega) _).grown hgrow (by simp; omega) (fun j hj => (hown.lt j hj).1)
              clear hown' hgrow hown hbel
              go_wp2_with fail
              go_roundw
              case rel => exact ⟨s + 1, by omega, by omega, by go_num, R1, R2⟩
              case measure => simp [intOf]; omega
        · have hs255 : s = 255 := by omega
          subst hs255
          go_wp2_with fail
          go_roundw
          case rel => exact ⟨f + 1, by omega, by omega, by go_num, by rw [← cnt_row f hf1]; exact hown, hbel⟩
          case measure => simp [intOf]; omega
    · have hf255 : f = 255 := by omega
      subst hf255
      go_wp2_with fail
      go_ret
      exact ⟨_, rfl, hown, hbel⟩

/-- What an owned row of 23940 codes looks like. -/
theorem codes_shape {B : Nat} {w : World} {v : Value} (h : w.ownsRow B 9 1 v 23940 (codes 23940)) :
    ∃ g cap, v = .slice (some ⟨g, 0, none⟩) 23940 cap ∧ g < w.heap.size ∧ ∀ k, k < 23940 → w.cell? ⟨g, k, none⟩ = some (.string (codeOf k)) := by
  rcases h.2 with ⟨_, h0⟩ | ⟨g, cap, cur, hv, hB, hg, _⟩
  · omega
  · refine ⟨g, cap, hv, (Array.getElem?_eq_some_iff.1 hg).1, fun k hk => ?_⟩
    have hc := h.cells (g := g) (by rw [hv]; rfl) k (.string (codeOf k)) (codes_get _ _ hk)
    rw [Addr.add_lit] at hc
    simpa using hc

/-- The length stands as a letter with its two bounds: the walk decides 'len(codes) != 23940' by arithmetic. -/
theorem zztwo_any (w : World) : Calls Try.prog 12 #[] w fun e w' => ∃ n g cap, e = .returned (.slice (some ⟨g, 0, none⟩) n cap) ∧ n ≤ 23940 ∧ 23940 ≤ n ∧ g < w'.heap.size ∧
    (∀ k, k < 23940 → w'.cell? ⟨g, k, none⟩ = some (.string (codeOf k))) ∧ Below w.heap.size w w' := by
  go_enter Try.func12, Try.ntmps12
  go_wp2_with (go_at_call 23; refine (two_any _).mono ?_; rintro e w' ⟨v, rfl, hown, hbel⟩)
  go_ret
  obtain ⟨g, cap, rfl, hg, hc⟩ := codes_shape hown
  exact ⟨23940, g, cap, rfl, Nat.le_refl _, Nat.le_refl _, hg, hc, hbel⟩

end Go.Proofs.Qxb6600228a
