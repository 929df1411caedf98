/-
  The contract of 'appendString' (23) and its export (17): the slice that comes back reads as what came in, followed by the JSON string; nothing old is touched.
-/
import Derived.Test.Qxb6600276aRow
import Derived.Test.Qxb6600276aEscPlain
import Derived.WalkKit
import Derived.WalkSpells
import Derived.WalkLawsBesides
import Derived.ArgAppend
import Derived.Deep.AppendLies
import Derived.Deep.RegionLaw
import Derived.Lib.AppendStr
namespace Go.Proofs.Qxb6600276a
open Go.RowKit
set_option linter.unusedVariables false
theorem Try.byte5 : (Try.prog.info? 5).map (fun i => (i.zero, i.size, i.bytes)) = some (some (.int .u8 0), 1, 1) := by kernel_rfl

/-- The digit string of the Go text, at a place within it. -/
theorem hex_at (n : Nat) (h : n < 16) (w : World) :
    (Instr.index 9 (.string { data := #[48, 49, 50, 51, 52, 53, 54, 55, 56, 57, 97, 98, 99, 100, 101, 102] }) (.int .u8 (n : Int))).run Try.prog w = .ok (.int .u8 (hexd (n : Int))) w := by
  have hc : n = 0 ∨ n = 1 ∨ n = 2 ∨ n = 3 ∨ n = 4 ∨ n = 5 ∨ n = 6 ∨ n = 7 ∨ n = 8 ∨ n = 9 ∨ n = 10 ∨ n = 11 ∨ n = 12 ∨ n = 13 ∨ n = 14 ∨ n = 15 := by omega
  rcases hc with rfl | rfl | rfl | rfl | rfl | rfl | rfl | rfl | rfl | rfl | rfl | rfl | rfl | rfl | rfl | rfl
  all_goals (show _ = _; kernel_rfl)
theorem hex_int (d : Int) (h0 : 0 ≤ d) (h1 : d ≤ 15) (w : World) :
    (Instr.index 9 (.string { data := #[48, 49, 50, 51, 52, 53, 54, 55, 56, 57, 97, 98, 99, 100, 101, 102] }) (.int .u8 d)).run Try.prog w = .ok (.int .u8 (hexd d)) w := by
  obtain ⟨n, rfl⟩ : ∃ n : Nat, d = (n : Int) := ⟨d.toNat, by omega⟩
  exact hex_at n (by omega) w

theorem ownsRow_base {w : World} {B B' : Nat} {e : TypeId} {size : Nat} {v : Value} {n : Nat} {xs : List Value} (h : w.ownsRow B' e size v n xs) (hB : B ≤ B') : w.ownsRow B e size v n xs := by
  obtain ⟨h1, h2⟩ := h
  refine ⟨h1, ?_⟩
  rcases h2 with h2 | ⟨g, cap, cur, hv, hg, rest⟩
  · exact Or.inl h2
  · exact Or.inr ⟨g, cap, cur, hv, Nat.le_trans hB hg, rest⟩
/-- The cells of a block that has just been laid. -/
theorem news_alloc (w : World) (cs : Array Value) (t : TypeId) : ∀ j u, cs.toList[j]? = some u → (w.alloc (.cells cs t)).cell? ((⟨w.heap.size, 0, none⟩ : Addr).add j) = some u :=
  World.news_of_block (heap_alloc_new w _)

/-- Behind a round: the row has grown by what is written for the byte. -/
theorem round_row {w1 : World} {B m j : Nat} {v' : Value} {zs L : List Int} {k : Nat} {news : List Value} (hk : k < L.length) (hown : w1.ownsRow B 5 1 v' (m + j) (cellsAt zs L k ++ news)) (he : (escB (L.getD k 0)).map (Value.int .u8) = news) :
    w1.ownsRow B 5 1 v' (m + j) (cellsAt zs L (k + 1)) := by
  rw [cellsAt_succ zs L k hk, he]; exact hown

set_option maxHeartbeats 4000000 in
theorem app_any (ao : Option Addr) (n : Nat) (zs : List Int) (s : ByteArray) (w : World) (hzn : zs.length = n) (hnone : ao = none → n = 0)
    (hcells : ∀ b, ao = some b → ∀ j, j < n → w.cell? (b.add j) = some (.int .u8 (zs.getD j 0))) (hn : n ≤ 1048576) (hs : s.size ≤ 1048576) :
    Calls Try.prog 23 #[.slice ao n n, .string s] w fun e w' => ∃ v, e = .returned v ∧ w'.ownsRow w.heap.size 5 1 v (n + (esc (bytesOf s)).length) ((zs ++ esc (bytesOf s)).map (Value.int .u8)) ∧ Below w.heap.size w w' := by
  obtain ⟨i0, hi, hz0, hz1, hz2⟩ := info_parts Try.byte5
  have HZ : Hid (zs.length = n) := hzn
  have holds : Hid (∀ b, ao = some b → ∀ j u, (zs.map (Value.int .u8))[j]? = some u → (w.alloc (.cells #[.int .u8 34] 5)).cell? (b.add j) = some u) := by
    intro b hb j u hu
    have hj : j < zs.length := by simpa using (List.getElem?_eq_some_iff.1 hu).1
    have hc := hcells b hb j (by omega)
    have : u = .int .u8 (zs.getD j 0) := by simp [List.getD, hj] at hu ⊢; exact hu.symm
    rw [this]
    exact cell_later ((Below.refl _ _).alloc (Nat.le_refl _) _) hc
  have hnone' : Hid (ao = none → n = 0 ∧ n = 0) := fun h => ⟨hnone h, hnone h⟩
  clear hzn hcells hnone
  obtain ⟨L, hL⟩ : ∃ L, L = bytesOf s := ⟨_, rfl⟩
  have HL : Hid (L = bytesOf s) := hL
  have hLs : L.length = s.size := by rw [hL]; exact bytesOf_length s
  have HLs : Hid (L.length = s.size) := hLs
  rw [← hL]
  clear hL hLs
  go_enter Try.func23, Try.ntmps23
  go_wp2_with (at_builtin; refine wpList_append_grows _ rfl (.tmp 7) (.tmp 8) 26 rfl 5 i0 (.int .u8 0) 1 1 Try.underlying26 hi hz0 hz1 hz2 rfl (by decide) ao n n (zs.map (Value.int .u8)) rfl hnone'.out (by have := HZ.out; simp [this]) holds.out ⟨w.heap.size, 0, none⟩ 1 1 [.int .u8 34] rfl rfl (cell_one_new _ _ _) (by intro u hu; simp at hu; subst hu; rfl) (by omega) (by unfold maxLen; omega) (by omega) ?_; intro v1 w1 hown1 hgrow1)
  have R1 : Hid (w1.ownsRow w.heap.size 5 1 v1 (n + 1) (cellsAt zs L 0)) := by
    rw [cellsAt_zero]
    exact ownsRow_base hown1 (by simp)
  have hb1 : Below w.heap.size w w1 := ((Below.refl _ _).alloc (Nat.le_refl _) _).grown hgrow1 (by simp) (fun k hk => by cases hk)
  clear hown1 hgrow1 holds hnone'
  go_wp2_with fail
  go_loopw [0, 5] (fun v i wr => ∃ k m : Nat, k ≤ s.size ∧ m ≤ n + 1 + 6 * k ∧ i = .int .i64 k ∧ Hid (wr.ownsRow w.heap.size 5 1 v m (cellsAt zs L k)) ∧ Below w.heap.size w wr) (fun _ i _ => s.size - (intOf i).toNat)
  case atStart => exact ⟨0, n + 1, Nat.zero_le _, by omega, rfl, R1, hb1⟩
  case round =>
    clear R1 hb1
    obtain ⟨k, m, hk, hm, rfl, hown, hbel⟩ := hrel
    have hsz := hbel.size
    by_cases hlt : k < s.size
    · have hkL : Hid (k < L.length) := by have := HLs.out; show k < L.length; omega
      have hcL : Hid (L.getD k 0 = (s[k].toNat : Int)) := by rw [HL.out]; exact bytesOf_getD s k hlt
      have hb255 : (s[k].toNat : Int) ≤ 255 := by have := s[k].toNat_lt; omega
      by_cases e34 : (s[k].toNat : Int) = 34
      · have e34a : (s[k].toNat : Int) ≤ 34 := by omega
        have e34b : 34 ≤ (s[k].toNat : Int) := by omega
        have hesc : Hid ((escB (L.getD k 0)).map (Value.int .u8) = [.int .u8 92, .int .u8 (s[k].toNat : Int)]) := by show _ = _; rw [hcL.out, e34]; rfl
        clear e34
        go_wp2_with (at_builtin; refine wpList_append_own _ rfl (.tmp 38) (.tmp 40) 26 rfl w.heap.size 5 i0 (.int .u8 0) 1 1 Try.underlying26 hi hz0 hz1 hz2 rfl (by decide) _ _ _ rfl (hown.out.alloc _) ⟨wr.heap.size, 0, none⟩ 2 2 [.int .u8 92, .int .u8 (s[k].toNat : Int)] rfl rfl (news_alloc wr #[.int .u8 92, .int .u8 (s[k].toNat : Int)] 5) (ints_oneCell .u8 [92, (s[k].toNat : Int)]) (by unfold maxLen; omega) (by omega) (by simp; omega) ?_; intro v2 w2 hown2 hgrow2 hnil2; clear hnil2)
        have RO : Hid (w2.ownsRow w.heap.size 5 1 v2 (m + 2) (cellsAt zs L (k + 1))) := round_row hkL.out hown2 hesc.out
        have RB : Below w.heap.size w w2 := (hbel.alloc hsz _).grown hgrow2 (by simp; omega) (fun j hj => (hown.out.lt j hj).1)
        clear hown2 hgrow2 hown hesc hkL hcL
        go_wp2_with fail
        go_roundw
        case rel => exact ⟨k + 1, m + 2, by omega, by omega, by go_num, RO, RB⟩
        case measure => simp [intOf]; omega
      by_cases e92 : (s[k].toNat : Int) = 92
      · have e92a : (s[k].toNat : Int) ≤ 92 := by omega
        have e92b : 92 ≤ (s[k].toNat : Int) := by omega
        have hesc : Hid ((escB (L.getD k 0)).map (Value.int .u8) = [.int .u8 92, .int .u8 (s[k].toNat : Int)]) := by show _ = _; rw [hcL.out, e92]; rfl
        clear e92
        go_wp2_with (at_builtin; refine wpList_append_own _ rfl (.tmp 38) (.tmp 40) 26 rfl w.heap.size 5 i0 (.int .u8 0) 1 1 Try.underlying26 hi hz0 hz1 hz2 rfl (by decide) _ _ _ rfl (hown.out.alloc _) ⟨wr.heap.size, 0, none⟩ 2 2 [.int .u8 92, .int .u8 (s[k].toNat : Int)] rfl rfl (news_alloc wr #[.int .u8 92, .int .u8 (s[k].toNat : Int)] 5) (ints_oneCell .u8 [92, (s[k].toNat : Int)]) (by unfold maxLen; omega) (by omega) (by simp; omega) ?_; intro v2 w2 hown2 hgrow2 hnil2; clear hnil2)
        have RO : Hid (w2.ownsRow w.heap.size 5 1 v2 (m + 2) (cellsAt zs L (k + 1))) := round_row hkL.out hown2 hesc.out
        have RB : Below w.heap.size w w2 := (hbel.alloc hsz _).grown hgrow2 (by simp; omega) (fun j hj => (hown.out.lt j hj).1)
        clear hown2 hgrow2 hown hesc hkL hcL
        go_wp2_with fail
        go_roundw
        case rel => exact ⟨k + 1, m + 2, by omega, by omega, by go_num, RO, RB⟩
        case measure => simp [intOf]; omega
      by_cases e8 : (s[k].toNat : Int) = 8
      · have e8a : (s[k].toNat : Int) ≤ 8 := by omega
        have e8b : 8 ≤ (s[k].toNat : Int) := by omega
        have hesc : Hid ((escB (L.getD k 0)).map (Value.int .u8) = [.int .u8 92, .int .u8 98]) := by show _ = _; rw [hcL.out, e8]; rfl
        clear e8
        go_wp2_with (at_builtin; refine Lib.wpList_append_own_string _ rfl (.tmp 44) (.const (.string { data := #[92, 98] })) 26 9 rfl w.heap.size 5 i0 Try.underlying26 Try.underlying9 hi hz0 hz1 hz2 _ _ _ rfl hown.out { data := #[92, 98] } rfl (by show m + 2 ≤ _; unfold maxLen; omega) (by show m + 2 ≤ _; omega) (by omega) ?_; intro v2 w2 hown2 hgrow2 hnil2; clear hnil2)
        have RO : Hid (w2.ownsRow w.heap.size 5 1 v2 (m + 2) (cellsAt zs L (k + 1))) := round_row hkL.out hown2 hesc.out
        have RB : Below w.heap.size w w2 := hbel.grown hgrow2 hsz (fun j hj => (hown.out.lt j hj).1)
        clear hown2 hgrow2 hown hesc hkL hcL
        go_wp2_with fail
        go_roundw
        case rel => exact ⟨k + 1, m + 2, by omega, by omega, by go_num, RO, RB⟩
        case measure => simp [intOf]; omega
      by_cases e9 : (s[k].toNat : Int) = 9
      · have e9a : (s[k].toNat : Int) ≤ 9 := by omega
        have e9b : 9 ≤ (s[k].toNat : Int) := by omega
        have hesc : Hid ((escB (L.getD k 0)).map (Value.int .u8) = [.int .u8 92, .int .u8 116]) := by show _ = _; rw [hcL.out, e9]; rfl
        clear e9
        go_wp2_with (at_builtin; refine Lib.wpList_append_own_string _ rfl (.tmp 48) (.const (.string { data := #[92, 116] })) 26 9 rfl w.heap.size 5 i0 Try.underlying26 Try.underlying9 hi hz0 hz1 hz2 _ _ _ rfl hown.out { data := #[92, 116] } rfl (by show m + 2 ≤ _; unfold maxLen; omega) (by show m + 2 ≤ _; omega) (by omega) ?_; intro v2 w2 hown2 hgrow2 hnil2; clear hnil2)
        have RO : Hid (w2.ownsRow w.heap.size 5 1 v2 (m + 2) (cellsAt zs L (k + 1))) := round_row hkL.out hown2 hesc.out
        have RB : Below w.heap.size w w2 := hbel.grown hgrow2 hsz (fun j hj => (hown.out.lt j hj).1)
        clear hown2 hgrow2 hown hesc hkL hcL
        go_wp2_with fail
        go_roundw
        case rel => exact ⟨k + 1, m + 2, by omega, by omega, by go_num, RO, RB⟩
        case measure => simp [intOf]; omega
      by_cases e10 : (s[k].toNat : Int) = 10
      · have e10a : (s[k].toNat : Int) ≤ 10 := by omega
        have e10b : 10 ≤ (s[k].toNat : Int) := by omega
        have hesc : Hid ((escB (L.getD k 0)).map (Value.int .u8) = [.int .u8 92, .int .u8 110]) := by show _ = _; rw [hcL.out, e10]; rfl
        clear e10
        go_wp2_with (at_builtin; refine Lib.wpList_append_own_string _ rfl (.tmp 52) (.const (.string { data := #[92, 110] })) 26 9 rfl w.heap.size 5 i0 Try.underlying26 Try.underlying9 hi hz0 hz1 hz2 _ _ _ rfl hown.out { data := #[92, 110] } rfl (by show m + 2 ≤ _; unfold maxLen; omega) (by show m + 2 ≤ _; omega) (by omega) ?_; intro v2 w2 hown2 hgrow2 hnil2; clear hnil2)
        have RO : Hid (w2.ownsRow w.heap.size 5 1 v2 (m + 2) (cellsAt zs L (k + 1))) := round_row hkL.out hown2 hesc.out
        have RB : Below w.heap.size w w2 := hbel.grown hgrow2 hsz (fun j hj => (hown.out.lt j hj).1)
        clear hown2 hgrow2 hown hesc hkL hcL
        go_wp2_with fail
        go_roundw
        case rel => exact ⟨k + 1, m + 2, by omega, by omega, by go_num, RO, RB⟩
        case measure => simp [intOf]; omega
      by_cases e12 : (s[k].toNat : Int) = 12
      · have e12a : (s[k].toNat : Int) ≤ 12 := by omega
        have e12b : 12 ≤ (s[k].toNat : Int) := by omega
        have hesc : Hid ((escB (L.getD k 0)).map (Value.int .u8) = [.int .u8 92, .int .u8 102]) := by show _ = _; rw [hcL.out, e12]; rfl
        clear e12
        go_wp2_with (at_builtin; refine Lib.wpList_append_own_string _ rfl (.tmp 56) (.const (.string { data := #[92, 102] })) 26 9 rfl w.heap.size 5 i0 Try.underlying26 Try.underlying9 hi hz0 hz1 hz2 _ _ _ rfl hown.out { data := #[92, 102] } rfl (by show m + 2 ≤ _; unfold maxLen; omega) (by show m + 2 ≤ _; omega) (by omega) ?_; intro v2 w2 hown2 hgrow2 hnil2; clear hnil2)
        have RO : Hid (w2.ownsRow w.heap.size 5 1 v2 (m + 2) (cellsAt zs L (k + 1))) := round_row hkL.out hown2 hesc.out
        have RB : Below w.heap.size w w2 := hbel.grown hgrow2 hsz (fun j hj => (hown.out.lt j hj).1)
        clear hown2 hgrow2 hown hesc hkL hcL
        go_wp2_with fail
        go_roundw
        case rel => exact ⟨k + 1, m + 2, by omega, by omega, by go_num, RO, RB⟩
        case measure => simp [intOf]; omega
      by_cases e13 : (s[k].toNat : Int) = 13
      · have e13a : (s[k].toNat : Int) ≤ 13 := by omega
        have e13b : 13 ≤ (s[k].toNat : Int) := by omega
        have hesc : Hid ((escB (L.getD k 0)).map (Value.int .u8) = [.int .u8 92, .int .u8 114]) := by show _ = _; rw [hcL.out, e13]; rfl
        clear e13
        go_wp2_with (at_builtin; refine Lib.wpList_append_own_string _ rfl (.tmp 60) (.const (.string { data := #[92, 114] })) 26 9 rfl w.heap.size 5 i0 Try.underlying26 Try.underlying9 hi hz0 hz1 hz2 _ _ _ rfl hown.out { data := #[92, 114] } rfl (by show m + 2 ≤ _; unfold maxLen; omega) (by show m + 2 ≤ _; omega) (by omega) ?_; intro v2 w2 hown2 hgrow2 hnil2; clear hnil2)
        have RO : Hid (w2.ownsRow w.heap.size 5 1 v2 (m + 2) (cellsAt zs L (k + 1))) := round_row hkL.out hown2 hesc.out
        have RB : Below w.heap.size w w2 := hbel.grown hgrow2 hsz (fun j hj => (hown.out.lt j hj).1)
        clear hown2 hgrow2 hown hesc hkL hcL
        go_wp2_with fail
        go_roundw
        case rel => exact ⟨k + 1, m + 2, by omega, by omega, by go_num, RO, RB⟩
        case measure => simp [intOf]; omega
      by_cases e32 : (s[k].toNat : Int) < 32
      · have hesc : Hid ((escB (L.getD k 0)).map (Value.int .u8) = [.int .u8 92, .int .u8 117, .int .u8 48, .int .u8 48, .int .u8 (hexd ((s[k].toNat : Int) / 16)), .int .u8 (hexd ((s[k].toNat : Int) % 16))]) := by
          show _ = _
          rw [hcL.out]; unfold escB
          rw [if_neg e34, if_neg e92, if_neg e8, if_neg e9, if_neg e10, if_neg e12, if_neg e13, if_pos e32]; rfl
        have hx0 : 0 ≤ (s[k].toNat : Int) := by omega
        have hand : bits .and .u8 (s[k].toNat : Int) 15 = (s[k].toNat : Int) % 16 := u8_and15 _ hx0 (by omega)
        have hidx1 := fun wx => hex_int ((s[k].toNat : Int) / 16) (by omega) (by omega) wx
        have hidx2 := fun wx => hex_int ((s[k].toNat : Int) % 16) (by omega) (by omega) wx
        go_wp2_with fail
        go_region_law (refine step_append_lies _ rfl (.tmp 22) (.tmp 29) 26 rfl w.heap.size 5 i0 (.int .u8 0) 1 1 Try.underlying26 hi hz0 hz1 hz2 rfl (by decide) _ _ _ rfl (hown.out.alloc _) ⟨wr.heap.size, 0, none⟩ 6 6 [.int .u8 92, .int .u8 117, .int .u8 48, .int .u8 48, .int .u8 (hexd ((s[k].toNat : Int) / 16)), .int .u8 (hexd ((s[k].toNat : Int) % 16))] rfl rfl (news_alloc wr #[.int .u8 92, .int .u8 117, .int .u8 48, .int .u8 48, .int .u8 (hexd ((s[k].toNat : Int) / 16)), .int .u8 (hexd ((s[k].toNat : Int) % 16))] 5) (ints_oneCell .u8 [92, 117, 48, 48, hexd ((s[k].toNat : Int) / 16), hexd ((s[k].toNat : Int) % 16)]) (by decide) (by unfold maxLen; omega) (by omega) (by simp; omega) _ rfl ?_; intro g cap w2 hown2 hgrow2 hat hlt2)
        all_goals
          have RO : Hid (w2.ownsRow w.heap.size 5 1 (.slice (some ⟨g, 0, none⟩) (m + 6) cap) (m + 6) (cellsAt zs L (k + 1))) := round_row hkL.out hown2 hesc.out
          have RB : Below w.heap.size w w2 := by first | exact (hbel.alloc hsz _).drew.grown hgrow2 (by simp; omega) (fun j hj => (hown.out.lt j hj).1) | exact (hbel.drew.alloc hsz _).grown hgrow2 (by simp; omega) (fun j hj => (hown.out.lt j hj).1)
          clear hown2 hgrow2 hown hesc hkL hcL hat hlt2 hidx1 hidx2
          go_wp2_with fail
          go_roundw
          case rel => exact ⟨k + 1, m + 6, by omega, by omega, by go_num, RO, RB⟩
          case measure => simp [intOf]; omega
      · have hesc : Hid ((escB (L.getD k 0)).map (Value.int .u8) = [.int .u8 (s[k].toNat : Int)]) := by
          show _ = _
          rw [hcL.out]; unfold escB
          rw [if_neg e34, if_neg e92, if_neg e8, if_neg e9, if_neg e10, if_neg e12, if_neg e13, if_neg e32]; rfl
        go_wp2_with (at_builtin; refine wpList_append_own _ rfl (.tmp 31) (.tmp 33) 26 rfl w.heap.size 5 i0 (.int .u8 0) 1 1 Try.underlying26 hi hz0 hz1 hz2 rfl (by decide) _ _ _ rfl (hown.out.alloc _) ⟨wr.heap.size, 0, none⟩ 1 1 [.int .u8 (s[k].toNat : Int)] rfl rfl (news_alloc wr #[.int .u8 (s[k].toNat : Int)] 5) (ints_oneCell .u8 [(s[k].toNat : Int)]) (by unfold maxLen; omega) (by omega) (by simp; omega) ?_; intro v2 w2 hown2 hgrow2 hnil2; clear hnil2)
        have RO : Hid (w2.ownsRow w.heap.size 5 1 v2 (m + 1) (cellsAt zs L (k + 1))) := round_row hkL.out hown2 hesc.out
        have RB : Below w.heap.size w w2 := (hbel.alloc hsz _).grown hgrow2 (by simp; omega) (fun j hj => (hown.out.lt j hj).1)
        clear hown2 hgrow2 hown hesc hkL hcL
        go_wp2_with fail
        go_roundw
        case rel => exact ⟨k + 1, m + 1, by omega, by omega, by go_num, RO, RB⟩
        case measure => simp [intOf]; omega
    · have hend : Hid (cellsAt zs L k ++ [.int .u8 34] = (zs ++ esc L).map (Value.int .u8)) := by
        have : k = L.length := by have := HLs.out; omega
        show _ = _
        rw [this]; exact cellsAt_end zs L
      go_wp2_with (at_builtin; refine wpList_append_own _ rfl (.tmp 62) (.tmp 63) 26 rfl w.heap.size 5 i0 (.int .u8 0) 1 1 Try.underlying26 hi hz0 hz1 hz2 rfl (by decide) _ _ _ rfl (hown.out.alloc _) ⟨wr.heap.size, 0, none⟩ 1 1 [.int .u8 34] rfl rfl (cell_one_new _ _ _) (by intro u hu; simp at hu; subst hu; rfl) (by unfold maxLen; omega) (by omega) (by simp; omega) ?_; intro v2 w2 hown2 hgrow2 hnil2; clear hnil2)
      have RB : Below w.heap.size w w2 := (hbel.alloc hsz _).grown hgrow2 (by simp; omega) (fun j hj => (hown.out.lt j hj).1)
      have hlen := hown2.1
      rw [hend.out] at hown2 hlen
      simp only [List.length_map, List.length_append, HZ.out, Nat.mul_one] at hlen
      rw [← hlen] at hown2
      clear hgrow2
      go_wp2_with fail
      go_ret
      exact ⟨_, rfl, hown2, RB⟩

theorem zzapp_any (ao : Option Addr) (n : Nat) (zs : List Int) (s : ByteArray) (w : World) (hzn : zs.length = n) (hnone : ao = none → n = 0)
    (hcells : ∀ b, ao = some b → ∀ j, j < n → w.cell? (b.add j) = some (.int .u8 (zs.getD j 0))) (hn : n ≤ 1048576) (hs : s.size ≤ 1048576) :
    Calls Try.prog 17 #[.slice ao n n, .string s] w fun e w' => ∃ v, e = .returned v ∧ w'.ownsRow w.heap.size 5 1 v (n + (esc (bytesOf s)).length) ((zs ++ esc (bytesOf s)).map (Value.int .u8)) ∧ Below w.heap.size w w' := by
  go_enter Try.func17, Try.ntmps17
  go_wp2_with (go_at_call 23; refine (app_any ao n zs s _ hzn hnone hcells hn hs).mono ?_; rintro e w' ⟨v, rfl, hown, hbel⟩)
  go_ret
  exact ⟨_, rfl, hown, hbel⟩

end Go.Proofs.Qxb6600276a
