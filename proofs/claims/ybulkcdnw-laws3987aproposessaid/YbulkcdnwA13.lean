/-
  latest.
-/
import Derived.Test.YbulkcdnwA4
namespace Go.Proofs.Ybulkcdnw
open Go.RowKit
set_option maxRecDepth 100000
set_option linter.unusedSimpArgs false
set_option linter.unusedVariables false

/-- A proposal. -/
structure Prp where
  num : Int
  oa : Option Addr
  na : Nat
  ca : Nat
  ob : Option Addr
  nr : Nat
  cr : Nat
  rank : Int
def Prp.cells (p : Prp) : List Value := [.int .u64 p.num, .slice p.oa p.na p.ca, .slice p.ob p.nr p.cr, .int .i64 p.rank]
def prpCells (P : List Prp) : List Value := P.flatMap Prp.cells
def prp0 : Prp := ⟨0, none, 0, 0, none, 0, 0, 0⟩
theorem prpCells_at : ∀ (P : List Prp) (k j : Nat), k < P.length → j < 4 → (prpCells P)[k * 4 + j]? = (P.getD k prp0).cells[j]?
  | p :: P, 0, j, _, hj => by
    show (p.cells ++ P.flatMap Prp.cells)[0 * 4 + j]? = p.cells[j]?
    rw [Nat.zero_mul, Nat.zero_add, List.getElem?_append_left hj]
  | p :: P, k + 1, j, h, hj => by
    show (p.cells ++ P.flatMap Prp.cells)[(k + 1) * 4 + j]? = _
    rw [show (k + 1) * 4 + j = (k * 4 + j) + 4 from by omega, List.getElem?_append_right (by show 4 ≤ _; omega)]
    exact prpCells_at P k j (by simpa using h) hj

/-- The best so far. -/
def bstep (P : List Prp) (num : Int) (b : Option Nat) (i : Nat) : Option Nat :=
  if (P.getD i prp0).num = num then (match b with | none => some i | some j => if (P.getD j prp0).rank < (P.getD i prp0).rank then some i else some j) else b
def bst (P : List Prp) (num : Int) : Nat → Option Nat
  | 0 => none
  | k + 1 => bstep P num (bst P num k) k
theorem bst_lt (P : List Prp) (num : Int) : ∀ k j, bst P num k = some j → j < k
  | 0, j, h => by cases h
  | k + 1, j, h => by
    have ih := bst_lt P num k
    unfold bst bstep at h
    split at h
    · split at h
      · cases h; omega
      · rename_i i hi
        split at h
        · cases h; omega
        · cases h
          have := ih _ hi
          omega
    · have := ih _ h
      omega
def bptr (pb : Nat) : Option Nat → Value
  | none => .pointer none
  | some j => .pointer (some ⟨pb, j * 4, none⟩)

theorem prp_at {w : World} {pb : Nat} {A : Array Value} {P : List Prp} (hA : Blk w pb 42 A) (hP : A.toList = prpCells P) {k : Nat} (hk : k < P.length) :
    w.cell? ⟨pb, k * 4, none⟩ = some (.int .u64 (P.getD k prp0).num) ∧ w.cell? ⟨pb, k * 4 + 1, none⟩ = some (.slice (P.getD k prp0).oa (P.getD k prp0).na (P.getD k prp0).ca) ∧ w.cell? ⟨pb, k * 4 + 1 + 1, none⟩ = some (.slice (P.getD k prp0).ob (P.getD k prp0).nr (P.getD k prp0).cr) ∧ w.cell? ⟨pb, k * 4 + 1 + 1 + 1, none⟩ = some (.int .i64 (P.getD k prp0).rank) := by
  have h : ∀ j, j < 4 → w.cell? ⟨pb, k * 4 + j, none⟩ = (P.getD k prp0).cells[j]? := fun j hj => by
    rw [hA.cell, ← Array.getElem?_toList, hP, prpCells_at P k j hk hj]
  exact ⟨h 0 (by decide), h 1 (by decide), h 2 (by decide), h 3 (by decide)⟩

set_option maxHeartbeats 2000000 in
theorem latest_any (pb : Nat) (A : Array Value) (P : List Prp) (num : Int) (w : World) (hA : Blk w pb 42 A) (hP : A.toList = prpCells P) (hl : P.length ≤ 1000) :
    Calls Yba.prog 19 #[.slice (some ⟨pb, 0, none⟩) P.length P.length, .int .u64 num] w fun e w' => Kept (fun _ => True) w w' ∧ (bst P num P.length = none → e = .returned (.pointer none)) ∧
      (∀ j, bst P num P.length = some j → ∃ ub, e = .returned (.pointer (some ⟨ub, 0, none⟩)) ∧ Blk w' ub 39 #[.slice (P.getD j prp0).oa (P.getD j prp0).na (P.getD j prp0).ca, .slice (P.getD j prp0).ob (P.getD j prp0).nr (P.getD j prp0).cr]) := by
  have HA := Shy.mk (And.intro hA hP)
  clear hA hP
  go_enter Yba.func19, Yba.ntmps19
  go_wp2
  go_loopw [5, 11] (fun b i wr => ∃ k : Nat, k ≤ P.length ∧ i = .int .i64 k ∧ b = bptr pb (bst P num k) ∧ Shy (Kept (fun _ => True) w wr)) (fun _ i _ => P.length - (intOf i).toNat)
  case atStart => exact ⟨0, Nat.zero_le _, rfl, rfl, ⟨Kept.refl _ _⟩⟩
  case round =>
    obtain ⟨k, hk, rfl, rfl, hinv⟩ := hrel
    have hA1 := HA.out.1.kept hinv.out trivial
    have ltp := hA1.lt
    by_cases hlt : k < P.length
    · obtain ⟨e0, e1, e2, e3⟩ := prp_at hA1 HA.out.2 hlt
      obtain ⟨p, hp⟩ : ∃ p, P.getD k prp0 = p := ⟨_, rfl⟩
      rw [hp] at e0 e1 e2 e3
      have HP := Shy.mk hp
      obtain ⟨b, hb⟩ : ∃ b, bst P num k = b := ⟨_, rfl⟩
      have HB := Shy.mk hb
      rw [hb]
      clear hp
      cases hn : (p.num == num) with
      | false =>
        have hs : Shy (bst P num (k + 1) = b) := ⟨by show bstep P num (bst P num k) k = b; unfold bstep; rw [HP.out, if_neg (by simpa using hn), hb]⟩
        clear hA1 hb
        go_wp2
        go_quiet (fail)
        go_wp2
        go_roundw
        case rel => exact ⟨k + 1, by omega, by go_num, by rw [hs.out], ⟨(hinv.out.alloc _).drewN _⟩⟩
        case measure => simp [intOf]; omega
      | true =>
        have hn' : p.num = num := by simpa using hn
        cases b with
        | none =>
          have hs : Shy (bst P num (k + 1) = some k) := ⟨by show bstep P num (bst P num k) k = some k; unfold bstep; rw [HP.out, if_pos hn', hb]⟩
          clear hA1 hb hn'
          simp only [bptr]
          go_wp2
          go_quiet (fail)
          go_wp2
          go_roundw
          case rel => exact ⟨k + 1, by omega, by go_num, by rw [hs.out], ⟨(hinv.out.alloc _).drewN _⟩⟩
          case measure => simp [intOf]; omega
        | some j =>
          have hj := bst_lt P num k j hb
          obtain ⟨_, _, _, y3⟩ := prp_at hA1 HA.out.2 (show j < P.length by omega)
          obtain ⟨p2, hp2⟩ : ∃ p2, P.getD j prp0 = p2 := ⟨_, rfl⟩
          rw [hp2] at y3
          have y3' : wr.cell? ⟨pb, j * 4 + 3, none⟩ = some (.int .i64 p2.rank) := y3
          clear y3
          cases hr : decide (p2.rank < p.rank) with
          | true =>
            have hs : Shy (bst P num (k + 1) = some k) := ⟨by show bstep P num (bst P num k) k = some k; unfold bstep; rw [HP.out, if_pos hn', hb]; simp only [hp2]; rw [if_pos (by simpa using hr)]⟩
            clear hA1 hb hn' hp2
            simp only [bptr]
            go_wp2
            go_quiet (fail)
            go_wp2
            go_roundw
            case rel => exact ⟨k + 1, by omega, by go_num, by rw [hs.out], ⟨(hinv.out.alloc _).drewN _⟩⟩
            case measure => simp [intOf]; omega
          | false =>
            have hs : Shy (bst P num (k + 1) = some j) := ⟨by show bstep P num (bst P num k) k = some j; unfold bstep; rw [HP.out, if_pos hn', hb]; simp only [hp2]; rw [if_neg (by simpa using hr)]⟩
            clear hA1 hb hn' hp2
            simp only [bptr]
            go_wp2
            go_quiet (fail)
            go_wp2
            go_roundw
            case rel => exact ⟨k + 1, by omega, by go_num, by rw [hs.out], ⟨(hinv.out.alloc _).drewN _⟩⟩
            case measure => simp [intOf]; omega
    · obtain rfl : k = P.length := by omega
      cases hb : bst P num P.length with
      | none =>
        simp only [bptr]
        go_wp2
        go_ret
        exact ⟨hinv.out, fun _ => rfl, fun j h => (by rw [hb] at h; cases h)⟩
      | some j =>
        have hj := bst_lt P num P.length j hb
        obtain ⟨_, y1, y2, _⟩ := prp_at hA1 HA.out.2 hj
        obtain ⟨p2, hp2⟩ : ∃ p2, P.getD j prp0 = p2 := ⟨_, rfl⟩
        rw [hp2] at y1 y2
        have HP2 := Shy.mk hp2
        clear hA1 hp2
        simp only [bptr]
        go_wp2
        go_ret
        refine ⟨hinv.out.alloc _, fun h => (by rw [hb] at h; cases h), fun i hi => ?_⟩
        rw [hb] at hi
        cases hi
        exact ⟨_, rfl, by rw [HP2.out]; exact Blk.new _ _ _⟩
end Go.Proofs.Ybulkcdnw
