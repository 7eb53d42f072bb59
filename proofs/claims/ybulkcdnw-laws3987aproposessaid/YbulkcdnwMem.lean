/-
  Members as cells: plain lists, no walk.
-/
import Derived.Test.YbulkcdnwBase
namespace Go.Proofs.Ybulkcdnw
open Go.RowKit

/-- A member as its four cells. -/
structure Mem where
  nm : ByteArray
  inc : Int
  ad : ByteArray
  tk : ByteArray

def Mem.cells (m : Mem) : List Value := [.string m.nm, .int .u64 m.inc, .string m.ad, .string m.tk]
def memCells (ms : List Mem) : List Value := ms.flatMap Mem.cells
def mem0 : Mem := ⟨⟨#[]⟩, 0, ⟨#[]⟩, ⟨#[]⟩⟩

theorem memCells_at : ∀ (ms : List Mem) (k j : Nat), k < ms.length → j < 4 → (memCells ms)[k * 4 + j]? = (ms.getD k mem0).cells[j]?
  | [], k, j, h, _ => by simp at h
  | m :: ms, 0, j, _, hj => by
    simp only [memCells, List.flatMap_cons, Nat.zero_mul, Nat.zero_add, List.getD_cons_zero]
    rw [List.getElem?_append_left (by simpa [Mem.cells] using hj)]
  | m :: ms, k + 1, j, h, hj => by
    have ih := memCells_at ms k j (by simpa using h) hj
    simp only [memCells, List.flatMap_cons, List.getD_cons_succ] at ih ⊢
    rw [List.getElem?_append_right (by simp [Mem.cells]; omega), ← ih]
    congr 1
    simp [Mem.cells]; omega


theorem memCells_length (l : List Mem) : (memCells l).length = l.length * 4 := by
  induction l with
  | nil => rfl
  | cons m l ih => simp only [memCells, List.flatMap_cons, List.length_append, List.length_cons] at ih ⊢; rw [ih]; simp [Mem.cells]; omega

theorem memCells_set : ∀ (l : List Mem) (k : Nat) (m : Mem), k < l.length →
    memCells (l.set k m) = ((((memCells l).set (k * 4) (.string m.nm)).set (k * 4 + 1) (.int .u64 m.inc)).set (k * 4 + 2) (.string m.ad)).set (k * 4 + 3) (.string m.tk)
  | [], k, m, h => by simp at h
  | x :: l, 0, m, _ => by simp [memCells, Mem.cells]
  | x :: l, k + 1, m, h => by
    have ih := memCells_set l k m (by simpa using h)
    have e0 : (k + 1) * 4 = k * 4 + 1 + 1 + 1 + 1 := by omega
    have e2 : k * 4 + 1 + 1 + 1 + 1 + 2 = k * 4 + 2 + 1 + 1 + 1 + 1 := by omega
    have e3 : k * 4 + 1 + 1 + 1 + 1 + 3 = k * 4 + 3 + 1 + 1 + 1 + 1 := by omega
    simp only [memCells, List.set_cons_succ, List.flatMap_cons] at ih ⊢
    rw [ih, e0, e2, e3]
    simp only [Mem.cells, List.cons_append, List.nil_append, List.set_cons_succ]

def zero35 : Value := .agg #[.string ⟨#[]⟩, .int .u64 0, .string ⟨#[]⟩, .string ⟨#[]⟩]
theorem info35 : (Yba.prog.info? 35).map (fun i => (i.zero, i.size, i.bytes)) = some (some zero35, 4, 56) := by kernel_rfl
/-- What 'make([]Member, L)' lays. -/
def made35 (L : Nat) : Array Value := madeCells zero35.cells (L * 4)
theorem memCells_replicate_at (L j : Nat) (hj : j < L * 4) : (memCells (List.replicate L mem0))[j]? = zero35.cells[j % 4]? := by
  have h := memCells_at (List.replicate L mem0) (j / 4) (j % 4) (by simp; omega) (by omega)
  rw [show j / 4 * 4 + j % 4 = j from by omega] at h
  rw [h]
  have e : (List.replicate L mem0).getD (j / 4) mem0 = mem0 := by
    rw [List.getD_eq_getElem?_getD, List.getElem?_replicate]
    split <;> rfl
  rw [e, ← Array.getElem?_toList]
  rfl
theorem made35_toList (L : Nat) : (made35 L).toList = memCells (List.replicate L mem0) := by
  apply List.ext_getElem?
  intro j
  by_cases hj : j < L * 4
  · rw [memCells_replicate_at L j hj]
    have h4 : j % 4 < 4 := by omega
    unfold made35 madeCells
    simp only [Array.toList_map, List.getElem?_map, Array.toList_range, List.getElem?_range hj, Option.map_some]
    have : j % 4 = 0 ∨ j % 4 = 1 ∨ j % 4 = 2 ∨ j % 4 = 3 := by omega
    rcases this with h | h | h | h <;> simp [zero35, Value.cells, h]
  · rw [List.getElem?_eq_none (by simp [made35, size_madeCells]; omega), List.getElem?_eq_none (by rw [memCells_length]; simp; omega)]
theorem run_make35 (L : Nat) (hL : L ≤ 1000000) (w : World) : (Instr.makeSlice 30 (.int .i64 (L : Int)) (.int .i64 (L : Int))).run Yba.prog w = .ok (.slice (some ⟨w.heap.size, 0, none⟩) L L) (w.alloc (.cells (made35 L) 35)) := by
  obtain ⟨i, hi, hz0, hz1, hz2⟩ := info_parts info35
  have h := run_make (P := Yba.prog) w 30 35 i zero35 Yba.underlying30 hi hz0 .i64 .i64 (L : Int) (L : Int) (by omega) (by omega) (by rw [hz2]; omega) (by omega)
  rw [hz1] at h
  simp only [Int.toNat_natCast] at h
  exact h

theorem fill_step (ms : List Mem) (k : Nat) (hk : k < ms.length) : (ms.take k ++ List.replicate (ms.length - k) mem0).set k (ms.getD k mem0) = ms.take (k + 1) ++ List.replicate (ms.length - (k + 1)) mem0 := by
  apply List.ext_getElem?
  intro i
  rw [List.getElem?_set]
  have hlen : (ms.take k ++ List.replicate (ms.length - k) mem0).length = ms.length := by simp; omega
  by_cases hi : i < ms.length
  · by_cases e : k = i
    · subst e
      rw [if_pos rfl, if_pos (by omega), List.getElem?_append_left (by simp; omega), List.getElem?_take, if_pos (by omega)]
      simp [List.getD, hk]
    · rw [if_neg e]
      by_cases hlt : i < k
      · rw [List.getElem?_append_left (by simp; omega), List.getElem?_append_left (by simp; omega), List.getElem?_take, List.getElem?_take, if_pos hlt, if_pos (by omega)]
      · rw [List.getElem?_append_right (by simp; omega), List.getElem?_append_right (by simp; omega), List.getElem?_replicate, List.getElem?_replicate, if_pos (by simp; omega), if_pos (by simp; omega)]
  · rw [if_neg (by omega), List.getElem?_eq_none (by omega), List.getElem?_eq_none (by simp; omega)]

/-- One round of 'ms[i] = Member{..}'. -/
theorem fill_round {w wr : World} {B : Nat} {A : Array Value} {ms : List Mem} {k : Nat} {m : Mem} (hk : k < ms.length) (hb : Below B w wr) (hA : Blk wr B 35 A)
    (hAt : A.toList = memCells (ms.take k ++ List.replicate (ms.length - k) mem0)) (hm : m = ms.getD k mem0) :
    let W' := ((((wr.setCell ⟨B, k * 4, none⟩ (.string m.nm)).setCell ⟨B, k * 4 + 1, none⟩ (.int .u64 m.inc)).setCell ⟨B, k * 4 + 2, none⟩ (.string m.ad)).setCell ⟨B, k * 4 + 3, none⟩ (.string m.tk)).drew
    Below B w W' ∧ ∃ A, Blk W' B 35 A ∧ A.toList = memCells (ms.take (k + 1) ++ List.replicate (ms.length - (k + 1)) mem0) := by
  refine ⟨((((hb.setCell (Nat.le_refl _) _).setCell (Nat.le_refl _) _).setCell (Nat.le_refl _) _).setCell (Nat.le_refl _) _).drew, _, ((((hA.set _ _).set _ _).set _ _).set _ _).drew, ?_⟩
  rw [← fill_step ms k hk, memCells_set _ _ _ (by simp; omega), ← hAt, ← hm]
  simp only [Array.toList_setIfInBounds]
end Go.Proofs.Ybulkcdnw
