/-
  From the arguments' readings to 'Row'; the law on 'copy(zzc, a)' into a row that the call has just made.
-/
import Derived.Test.Qxb6600276aRow
import Derived.Test.Qxb6600276aBigPlain
import Derived.WalkKit
import Derived.WalkSpells
import Derived.WalkLawsBesides
import Derived.Laws.CopyOwn
import Derived.OpenShut
namespace Go.Proofs.Qxb6600276a
open Go.RowKit

/-- WHAT THE WALK IS TOLD OF A SLICE OF INTEGERS THAT CAME IN (the given shells' own words): it is nil; or it leads to a row of 'cap' cells, the numbers 'zs' (the first 'len' are its elements, the rest its spare room), each fitting its kind. -/
def IsRow (k : IntKind) (w : World) (a : Option Addr) (len cap : Nat) (zs : List Int) : Prop :=
  (a = none ∧ len = 0 ∧ cap = 0 ∧ zs = []) ∨
  ∃ x, a = some x ∧ len ≤ cap ∧ cap ≤ maxLen ∧ zs.length = cap ∧ (∀ i, i < zs.length → w.cell? (x.add i) = some (.int k (zs.getD i 0))) ∧ ∀ n ∈ zs, (Lit.int k n).wf = true

theorem IsRow.row {k : IntKind} {w : World} {a : Option Addr} {len cap : Nat} {zs : List Int} (h : IsRow k w a len cap zs) : (zs.take len).length = len ∧ Row k w (.slice a len cap) (zs.take len) := by
  rcases h with ⟨rfl, rfl, rfl, rfl⟩ | ⟨x, rfl, hl, hm, hz, hcell, hwf⟩
  · exact ⟨rfl, Row.empty k w none 0⟩
  · have hlen : (zs.take len).length = len := by simp; omega
    refine ⟨hlen, some x, cap, by rw [hlen], fun hne => ?_⟩
    have hpos : 0 < len := by
      rcases Nat.eq_zero_or_pos len with h0 | h0
      · subst h0; exact absurd (List.take_zero) hne
      · exact h0
    obtain ⟨b, off, spot⟩ := x
    have hspot : spot = none := by simpa [Addr.add] using World.cell?_spot (hcell 0 (by omega))
    subst hspot
    refine ⟨b, off, rfl, fun i hi => ?_⟩
    have hc := hcell i (by omega)
    rw [Addr.add_lit] at hc
    rw [hc]
    simp [List.getD, show i < len by omega]

theorem IsRow.le {k : IntKind} {w : World} {a : Option Addr} {len cap : Nat} {zs : List Int} (h : IsRow k w a len cap zs) : len ≤ maxLen := by
  rcases h with ⟨rfl, rfl, rfl, rfl⟩ | ⟨x, rfl, hl, hm, _⟩
  · exact Nat.zero_le _
  · omega

theorem IsRow.nil {k : IntKind} {w : World} {len cap : Nat} {zs : List Int} (h : IsRow k w none len cap zs) : len = 0 ∧ cap = 0 := by
  rcases h with ⟨_, rfl, rfl, _⟩ | ⟨x, hx, _⟩
  · exact ⟨rfl, rfl⟩
  · cases hx

theorem IsRow.wf {k : IntKind} {w : World} {a : Option Addr} {len cap : Nat} {zs : List Int} (h : IsRow k w a len cap zs) : ∀ n ∈ zs.take len, (Lit.int k n).wf = true := by
  rcases h with ⟨rfl, rfl, rfl, rfl⟩ | ⟨x, rfl, hl, hm, hz, hcell, hwf⟩
  · intro n hn; simp at hn
  · exact fun n hn => hwf n (List.mem_of_mem_take hn)

theorem IsRow.units {w : World} {a : Option Addr} {len cap : Nat} {zs : List Int} (h : IsRow .u16 w a len cap zs) : Units (zs.take len) := fun n hn => bounds_u16 (h.wf n hn)

/-- A row that the call owns, whole, read as 'Row'. -/
theorem row_of_heap {k : IntKind} {w : World} {g n cap : Nat} {e : TypeId} {zs : List Int} (hn : zs.length = n) (cur : List Value) (hg : w.heap[g]? = some (.cells cur.toArray e (0, 0))) (hc : cur.take n = zs.map (Value.int k)) :
    Row k w (.slice (some ⟨g, 0, none⟩) n cap) zs := by
  subst hn
  refine ⟨_, cap, rfl, fun _ => ⟨g, 0, rfl, fun i hi => ?_⟩⟩
  rw [Nat.zero_add, cell_of_row w g i cur.toArray e (0, 0) hg]
  have : (cur.take zs.length)[i]? = some (.int k (zs.getD i 0)) := by rw [hc]; simp [List.getD, hi]
  rw [List.getElem?_take, if_pos hi] at this
  simpa using this

/-- 'zzc := make([]T, len(a)); copy(zzc, a)': THE SECOND STATEMENT, AS A RUN: behind it zzc reads as a did. -/
theorem copy_run {P : Program} (w : World) (dT ty elem : TypeId) (hu : P.underlying dT = some (.slice elem)) (hsz : (P.info? elem).map (·.size) = some 1)
    (k : IntKind) (g n : Nat) (sv : Value) (zs : List Int) (hn : zs.length = n) (hrow : Row k w sv zs)
    (B : Nat) (xs : List Value) (hown : w.ownsRow B elem 1 (.slice (some ⟨g, 0, none⟩) n n) n xs) (w0 : World) (hb : Below B w0 w) :
    ∃ w2, (Builtin.copy_ #[dT, dT] ty #[.slice (some ⟨g, 0, none⟩) n n, sv]).run P w = .ok (.int .i64 (n : Int)) w2 ∧ Row k w2 (.slice (some ⟨g, 0, none⟩) n n) zs ∧ Below B w0 w2 ∧ w2.heap.size = w.heap.size := by
  obtain ⟨sa, sc, rfl, hcells⟩ := hrow
  rcases hown.2 with ⟨h', _⟩ | ⟨g', cap', cur, h', hBg, hg, _, _, hcs, _⟩
  · simp at h'
  · simp only [Value.slice.injEq, Option.some.injEq, Addr.mk.injEq, and_true, true_and] at h'
    obtain ⟨rfl, rfl⟩ := h'
    by_cases h0 : zs = []
    · subst h0
      obtain rfl : n = 0 := by rw [← hn]; rfl
      refine ⟨w, run_copy_none w dT dT ty elem _ _ _ _ _ _ hu hsz rfl, Row.empty k w _ _, hb, rfl⟩
    · obtain ⟨b, off, rfl, hcell⟩ := hcells h0
      have hmin : (zs.map (Value.int k)).length = Nat.min zs.length n := by rw [List.length_map, hn]; exact (Nat.min_self n).symm
      have hr := run_copy_row (P := P) w dT dT ty elem g 0 n n ⟨b, off, none⟩ zs.length sc cur elem (zs.map (Value.int k)) hu hsz hg hmin (fun j v hj => by
        have hjl : j < zs.length := by simpa using (List.getElem?_eq_some_iff.1 hj).1
        rw [Addr.add_lit, hcell j hjl, ← hj]
        simp [List.getD, hjl]) (by simp; omega) (ints_oneCell k zs)
      rw [List.length_map, hn] at hr
      rw [hn]
      refine ⟨_, hr, row_of_heap hn _ (setRow_heap w g _ _ elem _ hg) ?_, below_setRow hb hBg _, setRow_size _ _ _⟩
      rw [List.take_zero, List.nil_append, List.take_append_of_le_length (by simp; omega), List.take_of_length_le (by simp; omega)]

end Go.Proofs.Qxb6600276a
