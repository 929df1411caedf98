/-
  'appendString' over a slice without spare room, and over nil, with what is known of the new slice's capacity.
-/
import Derived.Test.Qxb6600276aCopyB
import Derived.Laws.BytesArg
namespace Go.Proofs.Qxb6600276a
open Go.RowKit
set_option linter.unusedVariables false

/-- 'appendString' over a slice without spare room. -/
theorem zzapp_roomy (v : Value) (zs : List Int) (s : ByteArray) (w : World) (h : Full w v zs) (hn : zs.length ≤ 1048576) (hs : s.size ≤ 1048576) :
    Calls Try.prog 17 #[v, .string s] w fun e w' => ∃ g cap, e = .returned (.slice (some ⟨g, 0, none⟩) (zs.length + (esc (bytesOf s)).length) cap) ∧ zs.length + (esc (bytesOf s)).length ≤ cap ∧ cap ≤ maxLen ∧
      (∀ j, j < zs.length + (esc (bytesOf s)).length → w'.cell? ⟨g, j, none⟩ = some (.int .u8 ((zs ++ esc (bytesOf s)).getD j 0))) ∧ Below w.heap.size w w' := by
  have fin : ∀ (e : Ending) (w' : World), (∃ v, e = .returned v ∧ w'.ownsRow w.heap.size 5 1 v (zs.length + (esc (bytesOf s)).length) ((zs ++ esc (bytesOf s)).map (Value.int .u8)) ∧ Below w.heap.size w w') →
      ∃ g cap, e = .returned (.slice (some ⟨g, 0, none⟩) (zs.length + (esc (bytesOf s)).length) cap) ∧ zs.length + (esc (bytesOf s)).length ≤ cap ∧ cap ≤ maxLen ∧
      (∀ j, j < zs.length + (esc (bytesOf s)).length → w'.cell? ⟨g, j, none⟩ = some (.int .u8 ((zs ++ esc (bytesOf s)).getD j 0))) ∧ Below w.heap.size w w' := by
    rintro e w' ⟨v, rfl, hown, hb⟩
    obtain ⟨g, cap, rfl, _, _⟩ := hown.form (by simp [esc]; omega)
    have hcap : zs.length + (esc (bytesOf s)).length ≤ cap ∧ cap ≤ maxLen := by
      rcases hown.2 with ⟨h', _⟩ | ⟨g', cap', cur, h', _, _, hnc, hcm, _⟩
      · simp at h'
      · simp only [Value.slice.injEq, Option.some.injEq, Addr.mk.injEq, and_true, true_and] at h'
        obtain ⟨_, rfl⟩ := h'
        exact ⟨hnc, hcm⟩
    refine ⟨g, cap, rfl, hcap.1, hcap.2, fun j hj => ?_, hb⟩
    rw [hown.cellAt j (by omega)]
    have hj' : j < (zs ++ esc (bytesOf s)).length := by rw [List.length_append]; exact hj
    rw [List.getElem?_map, List.getElem?_eq_getElem hj', List.getD, List.getElem?_eq_getElem hj']
    rfl
  rcases h with ⟨rfl, rfl⟩ | ⟨g, rfl, hc⟩
  · exact (zzapp_any none 0 [] s w rfl (fun _ => rfl) (fun b hb => by cases hb) (by omega) hs).mono fin
  · refine (zzapp_any (some ⟨g, 0, none⟩) zs.length zs s w rfl (fun h => by cases h) (fun b hb j hj => ?_) hn hs).mono fin
    obtain rfl := Option.some.inj hb
    rw [Addr.add_lit, Nat.zero_add]; exact hc j hj

/-- 'appendString(nil, s)'. -/
theorem zzapp_nil (s : ByteArray) (w : World) (hs : s.size ≤ 1048576) :
    Calls Try.prog 17 #[.slice none 0 0, .string s] w fun e w' => ∃ g cap, e = .returned (.slice (some ⟨g, 0, none⟩) (esc (bytesOf s)).length cap) ∧ (esc (bytesOf s)).length ≤ cap ∧ cap ≤ maxLen ∧
      (∀ j, j < (esc (bytesOf s)).length → w'.cell? ⟨g, j, none⟩ = some (.int .u8 ((esc (bytesOf s)).getD j 0))) ∧ Below w.heap.size w w' := by
  have h := zzapp_roomy (.slice none 0 0) [] s w (.inl ⟨rfl, rfl⟩) (by simp) hs
  simp only [List.length_nil, Nat.zero_add, List.nil_append] at h
  exact h

theorem Full.nil {w : World} {a : Option Addr} {n : Nat} {zs : List Int} (h : Full w (.slice a n n) zs) (hz : zs.length = n) : a = none → n = 0 ∧ n = 0 := by
  intro ha
  rcases h with ⟨hv, _⟩ | ⟨g, hv, _⟩
  · simp only [Value.slice.injEq] at hv; exact ⟨hv.2.1, hv.2.1⟩
  · simp only [Value.slice.injEq] at hv; rw [ha] at hv; cases hv.1

theorem bytes_nums (l : List Int) (h : ∀ c ∈ l, 0 ≤ c ∧ c ≤ 255) : bytesOf (strOfNums l) = l := by
  unfold bytesOf
  rw [strOfNums_data, List.map_map]
  refine (List.map_congr_left (g := id) fun c hc => ?_).trans (List.map_id l)
  have := h c hc
  simp only [Function.comp_apply, id_eq, UInt8.toNat_ofNat']
  omega
theorem bytes_back (a b : ByteArray) : bytesOf (strOfNums (bytesOf a ++ bytesOf b)) = bytesOf a ++ bytesOf b :=
  bytes_nums _ (fun c hc => by
    rcases List.mem_append.1 hc with h | h
    · exact bytesOf_bd a c h
    · exact bytesOf_bd b c h)

theorem esc_length (l : List Int) : 2 ≤ (esc l).length ∧ (esc l).length ≤ 6 * l.length + 2 := by
  have := escL_bd l
  simp only [esc, List.length_cons, List.length_append, List.length_nil]
  omega

/-- 'appendString(nil, s)', its length a letter. -/
theorem zzapp_nilH (s : ByteArray) (w : World) (hs : s.size ≤ 1048576) :
    Calls Try.prog 17 #[.slice none 0 0, .string s] w fun e w' => ∃ n g cap, e = .returned (.slice (some ⟨g, 0, none⟩) n cap) ∧ Hid ((esc (bytesOf s)).length = n) ∧ 2 ≤ n ∧ n ≤ 6 * s.size + 2 ∧ n ≤ cap ∧ cap ≤ maxLen ∧
      Hid (∀ j, j < n → w'.cell? ⟨g, j, none⟩ = some (.int .u8 ((esc (bytesOf s)).getD j 0))) ∧ Below w.heap.size w w' := by
  refine (zzapp_nil s w hs).mono fun e w' ⟨g, cap, he, h1, h2, h3, h4⟩ => ⟨_, g, cap, he, rfl, (esc_length _).1, ?_, h1, h2, h3, h4⟩
  have := (esc_length (bytesOf s)).2
  rw [bytesOf_length] at this; exact this

/-- 'appendString(v, s)' over a slice without spare room, its length a letter. -/
theorem zzapp_fullH (v : Value) (zs : List Int) (s : ByteArray) (w : World) (h : Full w v zs) (hn : zs.length ≤ 1048576) (hs : s.size ≤ 1048576) :
    Calls Try.prog 17 #[v, .string s] w fun e w' => ∃ n g cap, e = .returned (.slice (some ⟨g, 0, none⟩) n cap) ∧ Hid ((zs ++ esc (bytesOf s)).length = n) ∧
      Hid (Row .u8 w' (.slice (some ⟨g, 0, none⟩) n cap) (zs ++ esc (bytesOf s))) ∧ Below w.heap.size w w' := by
  refine (zzapp_roomy v zs s w h hn hs).mono fun e w' ⟨g, cap, he, h1, h2, h3, h4⟩ => ⟨_, g, cap, he, List.length_append, ?_, h4⟩
  refine ⟨_, cap, by rw [List.length_append], fun _ => ⟨g, 0, rfl, fun i hi => ?_⟩⟩
  rw [Nat.zero_add]; exact h3 i (by rw [List.length_append] at hi; exact hi)

theorem Full.cells {w : World} {a : Option Addr} {n : Nat} {zs : List Int} (h : Full w (.slice a n n) zs) : ∀ ad, a = some ad → ∀ j u, (zs.map (Value.int .u8))[j]? = some u → w.cell? (ad.add j) = some u := by
  intro ad ha j u hu
  rcases h with ⟨hv, _⟩ | ⟨g, hv, hc⟩
  · simp only [Value.slice.injEq] at hv; rw [ha] at hv; cases hv.1
  · simp only [Value.slice.injEq] at hv
    rw [ha] at hv
    obtain rfl := Option.some.inj hv.1
    have hj : j < zs.length := by simpa using (List.getElem?_eq_some_iff.1 hu).1
    rw [Addr.add_lit, Nat.zero_add, hc j hj, ← hu]
    simp [List.getD, hj]

theorem row_of_own {w : World} {B g n cap : Nat} {ys : List Int} (h : w.ownsRow B 5 1 (.slice (some ⟨g, 0, none⟩) n cap) n (ys.map (Value.int .u8))) : Row .u8 w (.slice (some ⟨g, 0, none⟩) n cap) ys := by
  have hl := h.1
  simp only [List.length_map, Nat.mul_one] at hl
  refine ⟨_, cap, by rw [hl], fun _ => ⟨g, 0, rfl, fun i hi => ?_⟩⟩
  rw [Nat.zero_add, h.cellAt i (by omega)]
  simp [List.getD, hi]

end Go.Proofs.Qxb6600276a
