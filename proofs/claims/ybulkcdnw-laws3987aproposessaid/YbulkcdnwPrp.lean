/-
  Proposals as cells: plain lists, no walk.
-/
import Derived.Test.YbulkcdnwA13
namespace Go.Proofs.Ybulkcdnw
open Go.RowKit
set_option linter.unusedSimpArgs false
set_option linter.unusedVariables false

theorem prpCells_length (l : List Prp) : (prpCells l).length = l.length * 4 := by
  induction l with
  | nil => rfl
  | cons m l ih => simp only [prpCells, List.flatMap_cons, List.length_append, List.length_cons] at ih ⊢; rw [ih]; simp [Prp.cells]; omega

theorem prpCells_set : ∀ (l : List Prp) (k : Nat) (m : Prp), k < l.length →
    prpCells (l.set k m) = ((((prpCells l).set (k * 4) (.int .u64 m.num)).set (k * 4 + 1) (.slice m.oa m.na m.ca)).set (k * 4 + 2) (.slice m.ob m.nr m.cr)).set (k * 4 + 3) (.int .i64 m.rank)
  | [], k, m, h => by simp at h
  | x :: l, 0, m, _ => by simp [prpCells, Prp.cells]
  | x :: l, k + 1, m, h => by
    have ih := prpCells_set l k m (by simpa using h)
    have e0 : (k + 1) * 4 = k * 4 + 1 + 1 + 1 + 1 := by omega
    have e2 : k * 4 + 1 + 1 + 1 + 1 + 2 = k * 4 + 2 + 1 + 1 + 1 + 1 := by omega
    have e3 : k * 4 + 1 + 1 + 1 + 1 + 3 = k * 4 + 3 + 1 + 1 + 1 + 1 := by omega
    simp only [prpCells, List.set_cons_succ, List.flatMap_cons] at ih ⊢
    rw [ih, e0, e2, e3]
    simp only [Prp.cells, List.cons_append, List.nil_append, List.set_cons_succ]

def zero42 : Value := .agg #[.int .u64 0, .slice none 0 0, .slice none 0 0, .int .i64 0]
theorem info42 : (Yba.prog.info? 42).map (fun i => (i.zero, i.size, i.bytes)) = some (some zero42, 4, 64) := by kernel_rfl
/-- What 'make([]Proposal, L)' lays. -/
def made42 (L : Nat) : Array Value := madeCells zero42.cells (L * 4)
theorem prpCells_replicate_at (L j : Nat) (hj : j < L * 4) : (prpCells (List.replicate L prp0))[j]? = zero42.cells[j % 4]? := by
  have h := prpCells_at (List.replicate L prp0) (j / 4) (j % 4) (by simp; omega) (by omega)
  rw [show j / 4 * 4 + j % 4 = j from by omega] at h
  rw [h]
  have e : (List.replicate L prp0).getD (j / 4) prp0 = prp0 := by
    rw [List.getD_eq_getElem?_getD, List.getElem?_replicate]
    split <;> rfl
  rw [e, ← Array.getElem?_toList]
  rfl
theorem made42_toList (L : Nat) : (made42 L).toList = prpCells (List.replicate L prp0) := by
  apply List.ext_getElem?
  intro j
  by_cases hj : j < L * 4
  · rw [prpCells_replicate_at L j hj]
    have h4 : j % 4 < 4 := by omega
    unfold made42 madeCells
    simp only [Array.toList_map, List.getElem?_map, Array.toList_range, List.getElem?_range hj, Option.map_some]
    have : j % 4 = 0 ∨ j % 4 = 1 ∨ j % 4 = 2 ∨ j % 4 = 3 := by omega
    rcases this with h | h | h | h <;> simp [zero42, Value.cells, h]
  · rw [List.getElem?_eq_none (by simp [made42, size_madeCells]; omega), List.getElem?_eq_none (by rw [prpCells_length]; simp; omega)]
theorem run_make42 (L : Nat) (hL : L ≤ 1000000) (w : World) : (Instr.makeSlice 36 (.int .i64 (L : Int)) (.int .i64 (L : Int))).run Yba.prog w = .ok (.slice (some ⟨w.heap.size, 0, none⟩) L L) (w.alloc (.cells (made42 L) 42)) := by
  obtain ⟨i, hi, hz0, hz1, hz2⟩ := info_parts info42
  have h := run_make (P := Yba.prog) w 36 42 i zero42 Yba.underlying36 hi hz0 .i64 .i64 (L : Int) (L : Int) (by omega) (by omega) (by rw [hz2]; omega) (by omega)
  rw [hz1] at h
  simp only [Int.toNat_natCast] at h
  exact h

theorem fill_stepP (ms : List Prp) (k : Nat) (hk : k < ms.length) : (ms.take k ++ List.replicate (ms.length - k) prp0).set k (ms.getD k prp0) = ms.take (k + 1) ++ List.replicate (ms.length - (k + 1)) prp0 := by
  apply List.ext_getElem?
  intro i
  rw [List.getElem?_set]
  have hlen : (ms.take k ++ List.replicate (ms.length - k) prp0).length = ms.length := by simp; omega
  by_cases hi : i < ms.length
  · by_cases e : k = i
    · subst e
      rw [if_pos rfl, if_pos (by omega), List.getElem?_append_left (by simp; omega), List.getElem?_take, if_pos (by omega)]
      simp [List.getD, hk]
    · rw [if_neg e]
      by_cases hlt : i < k
      · rw [List.getElem?_append_left (by simp; omega), List.getElem?_append_left (by simp; omega), List.getElem?_take, List.getElem?_take, if_pos hlt, if_pos (by omega)]
      · rw [List.getElem?_append_right (by simp; omega), List.getElem?_append_right (by simp; omega), List.getElem?_replicate, List.getElem?_replicate, if_pos (by simp; omega), if_pos (by simp; omega)]
  · rw [if_neg (by omega), List.getElem?_eq_none (by omega), List.getElem?_eq_none (by simp; omega)]

theorem fill_roundP {w wr : World} {B : Nat} {A : Array Value} {P : List Prp} {k : Nat} {m : Prp} (hk : k < P.length) (hA : Blk wr B 42 A)
    (hAt : A.toList = prpCells (P.take k ++ List.replicate (P.length - k) prp0)) (hm : m = P.getD k prp0) :
    ∃ A2, Blk ((((wr.setCell ⟨B, k * 4, none⟩ (.int .u64 m.num)).setCell ⟨B, k * 4 + 1, none⟩ (.slice m.oa m.na m.ca)).setCell ⟨B, k * 4 + 2, none⟩ (.slice m.ob m.nr m.cr)).setCell ⟨B, k * 4 + 3, none⟩ (.int .i64 m.rank)) B 42 A2 ∧ A2.toList = prpCells (P.take (k + 1) ++ List.replicate (P.length - (k + 1)) prp0) := by
  refine ⟨_, (((hA.set _ _).set _ _).set _ _).set _ _, ?_⟩
  rw [← fill_stepP P k hk, prpCells_set _ _ _ (by simp; omega), ← hAt, ← hm]
  simp only [Array.toList_setIfInBounds]
end Go.Proofs.Ybulkcdnw
