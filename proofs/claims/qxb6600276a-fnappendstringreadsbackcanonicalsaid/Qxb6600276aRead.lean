/-
  The contract of 'zzReadCanonical' (18) over what 'appendString' writes: it reads the bytes back.
-/
import Derived.Test.Qxb6600276aRow
import Derived.Test.Qxb6600276aEscPlain
import Derived.Test.Qxb6600276aApp
import Derived.WalkKit
import Derived.WalkSpells
import Derived.WalkLawsBesides
import Derived.Laws.BytesArg
import Derived.Deep.RegionWith
namespace Go.Proofs.Qxb6600276a
open Go.RowKit
set_option linter.unusedVariables false

/-! ### Plain: where what is written for byte k lies -/
theorem split_at (L : List Int) (k : Nat) (h : k < L.length) : L = L.take k ++ L.getD k 0 :: L.drop (k + 1) := by
  have e : L.drop k = L.getD k 0 :: L.drop (k + 1) := by rw [List.drop_eq_getElem_cons h]; simp [List.getD, h]
  rw [← e]; exact (List.take_append_drop k L).symm
theorem esc_parts (L : List Int) (k : Nat) (h : k < L.length) : esc L = (34 :: escL (L.take k)) ++ (escB (L.getD k 0) ++ (escL (L.drop (k + 1)) ++ [34])) := by
  have e : escL L = escL (L.take k) ++ (escB (L.getD k 0) ++ escL (L.drop (k + 1))) := by
    have e0 := congrArg escL (split_at L k h)
    rw [escL_append, escL] at e0
    exact e0
  unfold esc
  rw [e]; simp
theorem getD_mid (P X Y : List Int) (j : Nat) (hj : j < X.length) : (P ++ (X ++ Y)).getD (P.length + j) 0 = X.getD j 0 := by
  simp only [List.getD]
  rw [List.getElem?_append_right (by omega), show P.length + j - P.length = j from by omega, List.getElem?_append_left hj]
theorem esc_at (L : List Int) (k p : Nat) (h : k < L.length) (hp : p = 1 + (escL (L.take k)).length) (j : Nat) (hj : j < (escB (L.getD k 0)).length) : (esc L).getD (p + j) 0 = (escB (L.getD k 0)).getD j 0 := by
  have hl : p = (34 :: escL (L.take k)).length := by rw [hp, List.length_cons]; omega
  rw [esc_parts L k h, hl]
  exact getD_mid _ _ _ j hj
theorem esc_room (L : List Int) (k p : Nat) (h : k < L.length) (hp : p = 1 + (escL (L.take k)).length) : p + (escB (L.getD k 0)).length + 1 ≤ (esc L).length := by
  rw [esc_parts L k h, hp]
  simp only [List.length_append, List.length_cons, List.length_nil]
  omega
theorem esc_next (L : List Int) (k p : Nat) (h : k < L.length) (hp : p = 1 + (escL (L.take k)).length) : p + (escB (L.getD k 0)).length = 1 + (escL (L.take (k + 1))).length := by
  rw [take_snoc' L k h, escL_append, List.length_append, hp]
  simp [escL]; omega
theorem esc_last (L : List Int) (n : Nat) (h : (esc L).length = n) : (esc L).getD 0 0 = 34 ∧ (esc L).getD (n - 1) 0 = 34 ∧ 2 ≤ n ∧ n = 2 + (escL L).length := by
  have hn : n = 2 + (escL L).length := by rw [← h]; simp [esc]; omega
  refine ⟨by simp [esc], ?_, by omega, hn⟩
  have e : esc L = (34 :: escL L) ++ [34] := by simp [esc]
  rw [e]
  simp only [List.getD]
  have hl : (34 :: escL L).length = n - 1 := by rw [List.length_cons]; omega
  rw [List.getElem?_append_right (by omega), hl, Nat.sub_self]; rfl

/-! ### The small callees -/
set_option maxHeartbeats 400000 in
theorem hexdigit_any (d : Int) (w : World) (h0 : 0 ≤ d) (h1 : d ≤ 15) : Calls Try.prog 24 #[.int .u8 (hexd d)] w fun e w' => e = .returned (.int .i64 d) ∧ w = w' := by
  by_cases h : d < 10
  · have e : hexd d = 48 + d := by unfold hexd; rw [if_pos h]
    rw [e]; clear e
    have b1 : decide (48 ≤ 48 + d) = true := decide_eq_true (by omega)
    go_enter Try.func24, Try.ntmps24
    go_wp2
    go_ret
    exact ⟨ret_int (by omega), rfl⟩
  · have e : hexd d = 87 + d := by unfold hexd; rw [if_neg h]
    rw [e]; clear e
    have b1 : decide (48 ≤ 87 + d) = true := decide_eq_true (by omega)
    have b2 : decide (87 + d ≤ 57) = false := decide_eq_false (by omega)
    have b3 : decide (97 ≤ 87 + d) = true := decide_eq_true (by omega)
    go_enter Try.func24, Try.ntmps24
    go_wp2
    go_ret
    exact ⟨ret_int (by omega), rfl⟩

set_option maxHeartbeats 400000 in
theorem short_no (c : Int) (w : World) (b8 : (c == 8) = false) (b9 : (c == 9) = false) (b10 : (c == 10) = false) (b12 : (c == 12) = false) (b13 : (c == 13) = false) :
    Calls Try.prog 25 #[.int .u8 c] w fun e w' => e = .returned (.bool false) ∧ w = w' := by
  go_enter Try.func25, Try.ntmps25
  go_wp2
  go_ret
  exact ⟨rfl, rfl⟩

/-- The bytes read so far, one more. -/
theorem read_row {w1 : World} {B k j : Nat} {v' : Value} {L : List Int} {news : List Value} (hk : k < L.length) (hown : w1.ownsRow B 5 1 v' (k + 1) ((L.take k).map (Value.int .u8) ++ news)) (he : [Value.int .u8 (L.getD k 0)] = news) :
    w1.ownsRow B 5 1 v' (k + 1) ((L.take (k + 1)).map (Value.int .u8)) := by
  rw [← he] at hown
  rw [take_snoc' L k hk, List.map_append]; exact hown

set_option maxRecDepth 100000 in
set_option maxHeartbeats 4000000 in
theorem read_any (L : List Int) (g off N cap : Nat) (w : World) (hLb : ∀ x ∈ L, 0 ≤ x ∧ x ≤ 255) (hN : (esc L).length = N) (hN2 : N ≤ 1048576)
    (hcells : ∀ j, j < N → w.cell? ⟨g, off + j, none⟩ = some (.int .u8 ((esc L).getD j 0))) :
    Calls Try.prog 18 #[.slice (some ⟨g, off, none⟩) N cap] w fun e w' => e = .returned (.tuple #[.string (strOfNums L), .bool true]) ∧ Below w.heap.size w w' := by
  obtain ⟨i0, hi, hz0, hz1, hz2⟩ := info_parts Try.byte5
  obtain ⟨l0, l1, hN1, hNl⟩ := esc_last L N hN
  have q0 : w.cell? ⟨g, off, none⟩ = some (.int .u8 34) := by have := hcells 0 (by omega); rw [l0] at this; exact this
  have q1 : w.cell? ⟨g, off + (N - 1), none⟩ = some (.int .u8 34) := by have := hcells (N - 1) (by omega); rw [l1] at this; exact this
  have HC : Hid (∀ j, j < N → w.cell? ⟨g, off + j, none⟩ = some (.int .u8 ((esc L).getD j 0))) := hcells
  have HN : Hid ((esc L).length = N) := hN
  have HNl : Hid (N = 2 + (escL L).length) := hNl
  have HB : Hid (∀ x ∈ L, 0 ≤ x ∧ x ≤ 255) := hLb
  clear hcells hN hNl hLb l0 l1
  have b1 : decide ((N : Int) < 2) = false := decide_eq_false (by omega)
  go_enter Try.func18, Try.ntmps18
  go_wp2_with (at_make; refine wpList_make_own _ rfl (.const (.int .i64 0)) (.tmp 31) 26 rfl w.heap.size 5 i0 (.int .u8 0) 1 Try.underlying26 hi hz0 hz1 _ _ _ N rfl rfl (by omega) (by rw [hz2]; omega) (by unfold maxLen; omega) (Nat.le_refl _) ?_; intro w1 hown1 hgrow1)
  have hb1 : Below w.heap.size w w1 := (Below.refl _ _).grown hgrow1 (Nat.le_refl _) (fun k hk => by cases hk)
  have R1 : Hid (w1.ownsRow w.heap.size 5 1 (.slice (some ⟨w.heap.size, 0, none⟩) 0 N) 0 ((L.take 0).map (Value.int .u8))) := hown1
  clear hown1 hgrow1 q0 q1
  go_wp2_with fail
  go_loopw [5, 6] (fun v i wr => ∃ k p : Nat, Hid (k ≤ L.length) ∧ Hid (p = 1 + (escL (L.take k)).length) ∧ k + 1 ≤ p ∧ p + 1 ≤ N ∧ i = .int .i64 p ∧ v = .slice (some ⟨w.heap.size, 0, none⟩) k N ∧ Hid (wr.ownsRow w.heap.size 5 1 (.slice (some ⟨w.heap.size, 0, none⟩) k N) k ((L.take k).map (Value.int .u8))) ∧ Below w.heap.size w wr) (fun _ i _ => N - (intOf i).toNat)
  case atStart => exact ⟨0, 1, Nat.zero_le _, rfl, by omega, by omega, rfl, rfl, R1, hb1⟩
  case round =>
    clear R1 hb1
    obtain ⟨k, p, hk, hp, hkp, hpN, rfl, rfl, hown, hbel⟩ := hrel
    have hsz := hbel.size
    by_cases hlt : k < L.length
    · have hkL : Hid (k < L.length) := hlt
      have hroom := esc_room L k p hlt hp.out
      have hnext := esc_next L k p hlt hp.out
      rw [HN.out] at hroom
      have hat : Hid (∀ j, j < (escB (L.getD k 0)).length → wr.cell? ⟨g, off + (p + j), none⟩ = some (.int .u8 ((escB (L.getD k 0)).getD j 0))) := by
        intro j hj
        have h1 := HC.out (p + j) (by omega)
        rw [esc_at L k p hlt hp.out j hj] at h1
        exact cell_later hbel h1
      obtain ⟨c, hc⟩ : ∃ c, c = L.getD k 0 := ⟨_, rfl⟩
      have hcm : L.getD k 0 ∈ L := by simp [List.getD, hlt]
      obtain ⟨hc0, hc255⟩ := HB.out _ hcm
      rw [← hc] at hroom hnext hat hc0 hc255
      have HCc : Hid (c = L.getD k 0) := hc
      clear hlt hc hcm hp hk
      by_cases e34 : c = 34
      · have hval : Hid ([Value.int .u8 (L.getD k 0)] = [.int .u8 34]) := by show _ = _; rw [← HCc.out, e34]
        have hesc : escB c = [92, 34] := by rw [e34]; rfl
        have hlenB : (escB c).length = 2 := by rw [hesc]; rfl
        rw [hlenB] at hroom hnext
        have g0 : wr.cell? ⟨g, off + p, none⟩ = some (.int .u8 92) := by have := hat.out 0 (by omega); rw [hesc] at this; exact this
        have g1 : wr.cell? ⟨g, off + (p + 1), none⟩ = some (.int .u8 34) := by have := hat.out 1 (by omega); rw [hesc] at this; exact this
        have hnx : Hid (p + 2 = 1 + (escL (L.take (k + 1))).length) := hnext
        clear hnext hat hlenB hesc
        clear e34 hc0 hc255
        go_wp2_with (first | (at_builtin; refine wpList_append_fits _ rfl (.tmp 71) (.tmp 73) 26 rfl w.heap.size 5 i0 1 Try.underlying26 hi hz1 w.heap.size k N ((L.take k).map (Value.int .u8)) rfl (hown.out.alloc _) ⟨wr.heap.size, 0, none⟩ 1 1 [.int .u8 34] rfl rfl (news_alloc wr #[.int .u8 34] 5) (ints_oneCell .u8 [34]) (by omega) ?_; intro w2 hown2 hgrow2))
        have RO : Hid (w2.ownsRow w.heap.size 5 1 (.slice (some ⟨w.heap.size, 0, none⟩) (k + 1) N) (k + 1) ((L.take (k + 1)).map (Value.int .u8))) := read_row (j := 0) hkL.out hown2 hval.out
        have RB : Below w.heap.size w w2 := (hbel.alloc hsz _).grown hgrow2 (by simp; omega) (fun j hj => by cases hj; exact Nat.le_refl _)
        have RK : Hid (k + 1 ≤ L.length) := hkL.out
        clear hown2 hgrow2 hown hval hkL HCc
        go_wp2_with fail
        go_roundw
        case rel => exact ⟨k + 1, p + 2, RK, hnx, by omega, by omega, by go_num, rfl, RO, RB⟩
        case measure => simp [intOf]; omega
      by_cases e92 : c = 92
      · have hval : Hid ([Value.int .u8 (L.getD k 0)] = [.int .u8 92]) := by show _ = _; rw [← HCc.out, e92]
        have hesc : escB c = [92, 92] := by rw [e92]; rfl
        have hlenB : (escB c).length = 2 := by rw [hesc]; rfl
        rw [hlenB] at hroom hnext
        have g0 : wr.cell? ⟨g, off + p, none⟩ = some (.int .u8 92) := by have := hat.out 0 (by omega); rw [hesc] at this; exact this
        have g1 : wr.cell? ⟨g, off + (p + 1), none⟩ = some (.int .u8 92) := by have := hat.out 1 (by omega); rw [hesc] at this; exact this
        have hnx : Hid (p + 2 = 1 + (escL (L.take (k + 1))).length) := hnext
        clear hnext hat hlenB hesc
        clear e92 hc0 hc255
        go_wp2_with (first | (at_builtin; refine wpList_append_fits _ rfl (.tmp 71) (.tmp 73) 26 rfl w.heap.size 5 i0 1 Try.underlying26 hi hz1 w.heap.size k N ((L.take k).map (Value.int .u8)) rfl (hown.out.alloc _) ⟨wr.heap.size, 0, none⟩ 1 1 [.int .u8 92] rfl rfl (news_alloc wr #[.int .u8 92] 5) (ints_oneCell .u8 [92]) (by omega) ?_; intro w2 hown2 hgrow2))
        have RO : Hid (w2.ownsRow w.heap.size 5 1 (.slice (some ⟨w.heap.size, 0, none⟩) (k + 1) N) (k + 1) ((L.take (k + 1)).map (Value.int .u8))) := read_row (j := 0) hkL.out hown2 hval.out
        have RB : Below w.heap.size w w2 := (hbel.alloc hsz _).grown hgrow2 (by simp; omega) (fun j hj => by cases hj; exact Nat.le_refl _)
        have RK : Hid (k + 1 ≤ L.length) := hkL.out
        clear hown2 hgrow2 hown hval hkL HCc
        go_wp2_with fail
        go_roundw
        case rel => exact ⟨k + 1, p + 2, RK, hnx, by omega, by omega, by go_num, rfl, RO, RB⟩
        case measure => simp [intOf]; omega
      by_cases e8 : c = 8
      · have hval : Hid ([Value.int .u8 (L.getD k 0)] = [.int .u8 8]) := by show _ = _; rw [← HCc.out, e8]
        have hesc : escB c = [92, 98] := by rw [e8]; rfl
        have hlenB : (escB c).length = 2 := by rw [hesc]; rfl
        rw [hlenB] at hroom hnext
        have g0 : wr.cell? ⟨g, off + p, none⟩ = some (.int .u8 92) := by have := hat.out 0 (by omega); rw [hesc] at this; exact this
        have g1 : wr.cell? ⟨g, off + (p + 1), none⟩ = some (.int .u8 98) := by have := hat.out 1 (by omega); rw [hesc] at this; exact this
        have hnx : Hid (p + 2 = 1 + (escL (L.take (k + 1))).length) := hnext
        clear hnext hat hlenB hesc
        clear e8 hc0 hc255
        go_wp2_with (first | (at_builtin; refine wpList_append_fits _ rfl (.tmp 137) (.tmp 140) 26 rfl w.heap.size 5 i0 1 Try.underlying26 hi hz1 w.heap.size k N ((L.take k).map (Value.int .u8)) rfl (hown.out.alloc _) ⟨wr.heap.size, 0, none⟩ 1 1 [.int .u8 8] rfl rfl (news_alloc wr #[.int .u8 8] 5) (ints_oneCell .u8 [8]) (by omega) ?_; intro w2 hown2 hgrow2) | (go_at_call 26; go_in))
        have RO : Hid (w2.ownsRow w.heap.size 5 1 (.slice (some ⟨w.heap.size, 0, none⟩) (k + 1) N) (k + 1) ((L.take (k + 1)).map (Value.int .u8))) := read_row (j := 0) hkL.out hown2 hval.out
        have RB : Below w.heap.size w w2 := (hbel.alloc hsz _).grown hgrow2 (by simp; omega) (fun j hj => by cases hj; exact Nat.le_refl _)
        have RK : Hid (k + 1 ≤ L.length) := hkL.out
        clear hown2 hgrow2 hown hval hkL HCc
        go_wp2_with fail
        go_roundw
        case rel => exact ⟨k + 1, p + 2, RK, hnx, by omega, by omega, by go_num, rfl, RO, RB⟩
        case measure => simp [intOf]; omega
      by_cases e9 : c = 9
      · have hval : Hid ([Value.int .u8 (L.getD k 0)] = [.int .u8 9]) := by show _ = _; rw [← HCc.out, e9]
        have hesc : escB c = [92, 116] := by rw [e9]; rfl
        have hlenB : (escB c).length = 2 := by rw [hesc]; rfl
        rw [hlenB] at hroom hnext
        have g0 : wr.cell? ⟨g, off + p, none⟩ = some (.int .u8 92) := by have := hat.out 0 (by omega); rw [hesc] at this; exact this
        have g1 : wr.cell? ⟨g, off + (p + 1), none⟩ = some (.int .u8 116) := by have := hat.out 1 (by omega); rw [hesc] at this; exact this
        have hnx : Hid (p + 2 = 1 + (escL (L.take (k + 1))).length) := hnext
        clear hnext hat hlenB hesc
        clear e9 hc0 hc255
        go_wp2_with (first | (at_builtin; refine wpList_append_fits _ rfl (.tmp 137) (.tmp 140) 26 rfl w.heap.size 5 i0 1 Try.underlying26 hi hz1 w.heap.size k N ((L.take k).map (Value.int .u8)) rfl (hown.out.alloc _) ⟨wr.heap.size, 0, none⟩ 1 1 [.int .u8 9] rfl rfl (news_alloc wr #[.int .u8 9] 5) (ints_oneCell .u8 [9]) (by omega) ?_; intro w2 hown2 hgrow2) | (go_at_call 26; go_in))
        have RO : Hid (w2.ownsRow w.heap.size 5 1 (.slice (some ⟨w.heap.size, 0, none⟩) (k + 1) N) (k + 1) ((L.take (k + 1)).map (Value.int .u8))) := read_row (j := 0) hkL.out hown2 hval.out
        have RB : Below w.heap.size w w2 := (hbel.alloc hsz _).grown hgrow2 (by simp; omega) (fun j hj => by cases hj; exact Nat.le_refl _)
        have RK : Hid (k + 1 ≤ L.length) := hkL.out
        clear hown2 hgrow2 hown hval hkL HCc
        go_wp2_with fail
        go_roundw
        case rel => exact ⟨k + 1, p + 2, RK, hnx, by omega, by omega, by go_num, rfl, RO, RB⟩
        case measure => simp [intOf]; omega
      by_cases e10 : c = 10
      · have hval : Hid ([Value.int .u8 (L.getD k 0)] = [.int .u8 10]) := by show _ = _; rw [← HCc.out, e10]
        have hesc : escB c = [92, 110] := by rw [e10]; rfl
        have hlenB : (escB c).length = 2 := by rw [hesc]; rfl
        rw [hlenB] at hroom hnext
        have g0 : wr.cell? ⟨g, off + p, none⟩ = some (.int .u8 92) := by have := hat.out 0 (by omega); rw [hesc] at this; exact this
        have g1 : wr.cell? ⟨g, off + (p + 1), none⟩ = some (.int .u8 110) := by have := hat.out 1 (by omega); rw [hesc] at this; exact this
        have hnx : Hid (p + 2 = 1 + (escL (L.take (k + 1))).length) := hnext
        clear hnext hat hlenB hesc
        clear e10 hc0 hc255
        go_wp2_with (first | (at_builtin; refine wpList_append_fits _ rfl (.tmp 137) (.tmp 140) 26 rfl w.heap.size 5 i0 1 Try.underlying26 hi hz1 w.heap.size k N ((L.take k).map (Value.int .u8)) rfl (hown.out.alloc _) ⟨wr.heap.size, 0, none⟩ 1 1 [.int .u8 10] rfl rfl (news_alloc wr #[.int .u8 10] 5) (ints_oneCell .u8 [10]) (by omega) ?_; intro w2 hown2 hgrow2) | (go_at_call 26; go_in))
        have RO : Hid (w2.ownsRow w.heap.size 5 1 (.slice (some ⟨w.heap.size, 0, none⟩) (k + 1) N) (k + 1) ((L.take (k + 1)).map (Value.int .u8))) := read_row (j := 0) hkL.out hown2 hval.out
        have RB : Below w.heap.size w w2 := (hbel.alloc hsz _).grown hgrow2 (by simp; omega) (fun j hj => by cases hj; exact Nat.le_refl _)
        have RK : Hid (k + 1 ≤ L.length) := hkL.out
        clear hown2 hgrow2 hown hval hkL HCc
        go_wp2_with fail
        go_roundw
        case rel => exact ⟨k + 1, p + 2, RK, hnx, by omega, by omega, by go_num, rfl, RO, RB⟩
        case measure => simp [intOf]; omega
      by_cases e12 : c = 12
      · have hval : Hid ([Value.int .u8 (L.getD k 0)] = [.int .u8 12]) := by show _ = _; rw [← HCc.out, e12]
        have hesc : escB c = [92, 102] := by rw [e12]; rfl
        have hlenB : (escB c).length = 2 := by rw [hesc]; rfl
        rw [hlenB] at hroom hnext
        have g0 : wr.cell? ⟨g, off + p, none⟩ = some (.int .u8 92) := by have := hat.out 0 (by omega); rw [hesc] at this; exact this
        have g1 : wr.cell? ⟨g, off + (p + 1), none⟩ = some (.int .u8 102) := by have := hat.out 1 (by omega); rw [hesc] at this; exact this
        have hnx : Hid (p + 2 = 1 + (escL (L.take (k + 1))).length) := hnext
        clear hnext hat hlenB hesc
        clear e12 hc0 hc255
        go_wp2_with (first | (at_builtin; refine wpList_append_fits _ rfl (.tmp 137) (.tmp 140) 26 rfl w.heap.size 5 i0 1 Try.underlying26 hi hz1 w.heap.size k N ((L.take k).map (Value.int .u8)) rfl (hown.out.alloc _) ⟨wr.heap.size, 0, none⟩ 1 1 [.int .u8 12] rfl rfl (news_alloc wr #[.int .u8 12] 5) (ints_oneCell .u8 [12]) (by omega) ?_; intro w2 hown2 hgrow2) | (go_at_call 26; go_in))
        have RO : Hid (w2.ownsRow w.heap.size 5 1 (.slice (some ⟨w.heap.size, 0, none⟩) (k + 1) N) (k + 1) ((L.take (k + 1)).map (Value.int .u8))) := read_row (j := 0) hkL.out hown2 hval.out
        have RB : Below w.heap.size w w2 := (hbel.alloc hsz _).grown hgrow2 (by simp; omega) (fun j hj => by cases hj; exact Nat.le_refl _)
        have RK : Hid (k + 1 ≤ L.length) := hkL.out
        clear hown2 hgrow2 hown hval hkL HCc
        go_wp2_with fail
        go_roundw
        case rel => exact ⟨k + 1, p + 2, RK, hnx, by omega, by omega, by go_num, rfl, RO, RB⟩
        case measure => simp [intOf]; omega
      by_cases e13 : c = 13
      · have hval : Hid ([Value.int .u8 (L.getD k 0)] = [.int .u8 13]) := by show _ = _; rw [← HCc.out, e13]
        have hesc : escB c = [92, 114] := by rw [e13]; rfl
        have hlenB : (escB c).length = 2 := by rw [hesc]; rfl
        rw [hlenB] at hroom hnext
        have g0 : wr.cell? ⟨g, off + p, none⟩ = some (.int .u8 92) := by have := hat.out 0 (by omega); rw [hesc] at this; exact this
        have g1 : wr.cell? ⟨g, off + (p + 1), none⟩ = some (.int .u8 114) := by have := hat.out 1 (by omega); rw [hesc] at this; exact this
        have hnx : Hid (p + 2 = 1 + (escL (L.take (k + 1))).length) := hnext
        clear hnext hat hlenB hesc
        clear e13 hc0 hc255
        go_wp2_with (first | (at_builtin; refine wpList_append_fits _ rfl (.tmp 137) (.tmp 140) 26 rfl w.heap.size 5 i0 1 Try.underlying26 hi hz1 w.heap.size k N ((L.take k).map (Value.int .u8)) rfl (hown.out.alloc _) ⟨wr.heap.size, 0, none⟩ 1 1 [.int .u8 13] rfl rfl (news_alloc wr #[.int .u8 13] 5) (ints_oneCell .u8 [13]) (by omega) ?_; intro w2 hown2 hgrow2) | (go_at_call 26; go_in))
        have RO : Hid (w2.ownsRow w.heap.size 5 1 (.slice (some ⟨w.heap.size, 0, none⟩) (k + 1) N) (k + 1) ((L.take (k + 1)).map (Value.int .u8))) := read_row (j := 0) hkL.out hown2 hval.out
        have RB : Below w.heap.size w w2 := (hbel.alloc hsz _).grown hgrow2 (by simp; omega) (fun j hj => by cases hj; exact Nat.le_refl _)
        have RK : Hid (k + 1 ≤ L.length) := hkL.out
        clear hown2 hgrow2 hown hval hkL HCc
        go_wp2_with fail
        go_roundw
        case rel => exact ⟨k + 1, p + 2, RK, hnx, by omega, by omega, by go_num, rfl, RO, RB⟩
        case measure => simp [intOf]; omega
      by_cases e32 : c < 32
      · have hesc : escB c = [92, 117, 48, 48, hexd (c / 16), hexd (c % 16)] := by unfold escB; rw [if_neg e34, if_neg e92, if_neg e8, if_neg e9, if_neg e10, if_neg e12, if_neg e13, if_pos e32]
        have hval : Hid ([Value.int .u8 (L.getD k 0)] = [.int .u8 c]) := by show _ = _; rw [← HCc.out]
        have hlenB : (escB c).length = 6 := by rw [hesc]; rfl
        rw [hlenB] at hroom hnext
        have g0 : wr.cell? ⟨g, off + p, none⟩ = some (.int .u8 92) := by have := hat.out 0 (by omega); rw [hesc] at this; exact this
        have g1 : wr.cell? ⟨g, off + (p + 1), none⟩ = some (.int .u8 117) := by have := hat.out 1 (by omega); rw [hesc] at this; exact this
        have g2 : wr.cell? ⟨g, off + (p + 2), none⟩ = some (.int .u8 48) := by have := hat.out 2 (by omega); rw [hesc] at this; exact this
        have g3 : wr.cell? ⟨g, off + (p + 3), none⟩ = some (.int .u8 48) := by have := hat.out 3 (by omega); rw [hesc] at this; exact this
        have g4 : wr.cell? ⟨g, off + (p + 4), none⟩ = some (.int .u8 (hexd (c / 16))) := by have := hat.out 4 (by omega); rw [hesc] at this; exact this
        have g5 : wr.cell? ⟨g, off + (p + 5), none⟩ = some (.int .u8 (hexd (c % 16))) := by have := hat.out 5 (by omega); rw [hesc] at this; exact this
        have hnx : Hid (p + 6 = 1 + (escL (L.take (k + 1))).length) := hnext
        clear hnext hat hlenB hesc
        have hv : c / 16 * 16 + c % 16 = c := by omega
        have z8 : (c == 8) = false := by simp [e8]
        have z9 : (c == 9) = false := by simp [e9]
        have z10 : (c == 10) = false := by simp [e10]
        have z12 : (c == 12) = false := by simp [e12]
        have z13 : (c == 13) = false := by simp [e13]
        have y1 : decide (c / 16 < 0) = false := decide_eq_false (by omega)
        have y2 : decide (c % 16 < 0) = false := decide_eq_false (by omega)
        have y3 : decide (32 ≤ c) = false := decide_eq_false (by omega)
        clear e34 e92 e8 e9 e10 e12 e13
        go_wp2_with fail
        refine (hexdigit_any (c / 16) _ (by omega) (by omega)).mono ?_
        rintro e w' ⟨rfl, rfl⟩
        go_wp2_with fail
        refine (hexdigit_any (c % 16) _ (by omega) (by omega)).mono ?_
        rintro e w' ⟨rfl, rfl⟩
        go_wp2_with fail
        refine (short_no c _ z8 z9 z10 z12 z13).mono ?_
        rintro e w' ⟨rfl, rfl⟩
        go_wp2_with (first | (at_builtin; refine wpList_append_fits _ rfl (.tmp 127) (.tmp 129) 26 rfl w.heap.size 5 i0 1 Try.underlying26 hi hz1 w.heap.size k N ((L.take k).map (Value.int .u8)) rfl (hown.out.alloc _) ⟨wr.heap.size, 0, none⟩ 1 1 [.int .u8 c] rfl rfl (news_alloc wr #[.int .u8 c] 5) (ints_oneCell .u8 [c]) (by omega) ?_; intro w2 hown2 hgrow2))
        have RO : Hid (w2.ownsRow w.heap.size 5 1 (.slice (some ⟨w.heap.size, 0, none⟩) (k + 1) N) (k + 1) ((L.take (k + 1)).map (Value.int .u8))) := read_row (j := 0) hkL.out hown2 hval.out
        have RB : Below w.heap.size w w2 := (hbel.alloc hsz _).grown hgrow2 (by simp; omega) (fun j hj => by cases hj; exact Nat.le_refl _)
        have RK : Hid (k + 1 ≤ L.length) := hkL.out
        clear hown2 hgrow2 hown hval hkL HCc
        go_wp2_with fail
        go_roundw
        case rel => exact ⟨k + 1, p + 6, RK, hnx, by omega, by omega, by go_num, rfl, RO, RB⟩
        case measure => simp [intOf]; omega
      · have hesc : escB c = [c] := by unfold escB; rw [if_neg e34, if_neg e92, if_neg e8, if_neg e9, if_neg e10, if_neg e12, if_neg e13, if_neg e32]
        have hval : Hid ([Value.int .u8 (L.getD k 0)] = [.int .u8 c]) := by show _ = _; rw [← HCc.out]
        have hlenB : (escB c).length = 1 := by rw [hesc]; rfl
        rw [hlenB] at hroom hnext
        have g0 : wr.cell? ⟨g, off + p, none⟩ = some (.int .u8 c) := by have := hat.out 0 (by omega); rw [hesc] at this; exact this
        have hnx : Hid (p + 1 = 1 + (escL (L.take (k + 1))).length) := hnext
        clear hnext hat hlenB hesc
        have z34 : (c == 34) = false := by simp [e34]
        have z92 : (c != 92) = true := by simp [e92]
        have z32 : decide (c < 32) = false := decide_eq_false e32
        clear e34 e92 e8 e9 e10 e12 e13
        go_wp2_with (first | (at_builtin; refine wpList_append_fits _ rfl (.tmp 49) (.tmp 51) 26 rfl w.heap.size 5 i0 1 Try.underlying26 hi hz1 w.heap.size k N ((L.take k).map (Value.int .u8)) rfl (hown.out.alloc _) ⟨wr.heap.size, 0, none⟩ 1 1 [.int .u8 c] rfl rfl (news_alloc wr #[.int .u8 c] 5) (ints_oneCell .u8 [c]) (by omega) ?_; intro w2 hown2 hgrow2))
        have RO : Hid (w2.ownsRow w.heap.size 5 1 (.slice (some ⟨w.heap.size, 0, none⟩) (k + 1) N) (k + 1) ((L.take (k + 1)).map (Value.int .u8))) := read_row (j := 0) hkL.out hown2 hval.out
        have RB : Below w.heap.size w w2 := (hbel.alloc hsz _).grown hgrow2 (by simp; omega) (fun j hj => by cases hj; exact Nat.le_refl _)
        have RK : Hid (k + 1 ≤ L.length) := hkL.out
        clear hown2 hgrow2 hown hval hkL HCc
        go_wp2_with fail
        go_roundw
        case rel => exact ⟨k + 1, p + 1, RK, hnx, by omega, by omega, by go_num, rfl, RO, RB⟩
        case measure => simp [intOf]; omega
    · have hend : Hid (p + 1 = N ∧ k = L.length) := by
        have e : k = L.length := by have := hk.out; omega
        have := hp.out
        rw [e, List.take_length] at this
        have := HNl.out
        exact ⟨by omega, e⟩
      have hpe : N ≤ p + 1 := by have := hend.out.1; omega
      have hcv : (convert 26 9 (.slice (some ⟨w.heap.size, 0, none⟩) k N)).run Try.prog wr = .ok (.string (strOfNums L)) wr := by
        refine run_convert_bytes_arg (P := Try.prog) wr 26 5 Try.underlying26 Try.underlying5 w.heap.size 0 k N L hend.out.2.symm (fun i hi => ?_) 9 Try.underlying9
        have := hown.out.cellAt i (by omega)
        rw [hend.out.2, List.take_length] at this
        rw [Nat.zero_add, this]
        simp [List.getD, show i < L.length by have := hend.out.2; omega]
      clear hown hk hp hlt
      go_wp2_with fail
      go_ret2
      exact ⟨rfl, hbel⟩

end Go.Proofs.Qxb6600276a
