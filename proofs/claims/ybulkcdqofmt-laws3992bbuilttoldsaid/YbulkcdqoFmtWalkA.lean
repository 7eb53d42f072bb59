/-
  The walks of IsCharacter, zzs3992bok, checkCharacters.
-/
import Derived.Test.YbulkcdqoFmtFacts
import Derived.Test.YbulkcdqoFmtPlain
import Derived.WalkKit
import Derived.WalkSpells
import Derived.Outline
namespace Go.Proofs.YbulkcdqoFmt
open Go.RowKit Go.Extern.Stop Go.Stop Go.Extern
set_option maxRecDepth 100000
set_option linter.unusedSimpArgs false
set_option linter.unusedVariables false
attribute [local go_sem] call9 guardF fmt0 fmt0r fmt1 fmt1r op3_100 op3_100w op21_113 op21_113w ptr36 elem36 isError36

theorem okN_ways (n : Int) : (n < 48 ∧ okN n = false) ∨ (48 ≤ n ∧ n ≤ 57 ∧ okN n = true) ∨ (57 < n ∧ n < 60 ∧ okN n = false) ∨ (n = 60 ∧ okN n = true) ∨ (60 < n ∧ n < 65 ∧ okN n = false) ∨ (65 ≤ n ∧ n ≤ 90 ∧ okN n = true) ∨ (90 < n ∧ okN n = false) := by
  unfold okN
  have : n < 48 ∨ (48 ≤ n ∧ n ≤ 57) ∨ (57 < n ∧ n < 60) ∨ n = 60 ∨ (60 < n ∧ n < 65) ∨ (65 ≤ n ∧ n ≤ 90) ∨ 90 < n := by omega
  rcases this with h | h | h | h | h | h | h
  · left; exact ⟨h, by simp; omega⟩
  · right; left; exact ⟨h.1, h.2, by simp; omega⟩
  · right; right; left; exact ⟨h.1, h.2, by simp; omega⟩
  · right; right; right; left; exact ⟨h, by simp; omega⟩
  · right; right; right; right; left; exact ⟨h.1, h.2, by simp; omega⟩
  · right; right; right; right; right; left; exact ⟨h.1, h.2, by simp; omega⟩
  · right; right; right; right; right; right; exact ⟨h, by simp; omega⟩


/-- The tests of a number, decided. -/
theorem tests (n : Int) (h48 : Bool) (e48 : decide (n ≥ 48) = h48) (h57 : Bool) (e57 : decide (n ≤ 57) = h57) (h65 : Bool) (e65 : decide (n ≥ 65) = h65) (h90 : Bool) (e90 : decide (n ≤ 90) = h90) (h60 : Bool) (e60 : (n == 60) = h60) : okN n = ((h48 && h57) || (h65 && h90) || h60) := by
  subst e48 e57 e65 e90 e60
  unfold okN
  rfl

set_option maxHeartbeats 1000000 in
theorem isChar_any (n : Int) (w : World) : Calls Ybaf.prog 7 #[.int .i32 n] w fun e w' => e = .returned (.bool (okN n)) ∧ w = w' := by
  rcases e48 : decide (n ≥ 48) with _ | _ <;> rcases e57 : decide (n ≤ 57) with _ | _ <;> rcases e65 : decide (n ≥ 65) with _ | _ <;> rcases e90 : decide (n ≤ 90) with _ | _ <;> rcases e60 : (n == 60) with _ | _ <;>
    (rw [tests n _ e48 _ e57 _ e65 _ e90 _ e60]; go_enter Ybaf.func7, Ybaf.ntmps7; go_wp2; go_ret; exact ⟨rfl, rfl⟩)

set_option maxHeartbeats 1000000 in
theorem ok_any (n : Int) (w : World) : Calls Ybaf.prog 5 #[.int .u8 n] w fun e w' => e = .returned (.bool (okN n)) ∧ w = w' := by
  rcases e48 : decide (n ≥ 48) with _ | _ <;> rcases e57 : decide (n ≤ 57) with _ | _ <;> rcases e65 : decide (n ≥ 65) with _ | _ <;> rcases e90 : decide (n ≤ 90) with _ | _ <;> rcases e60 : (n == 60) with _ | _ <;>
    (rw [tests n _ e48 _ e57 _ e65 _ e90 _ e60]; go_enter Ybaf.func5, Ybaf.ntmps5; go_wp2; go_ret; exact ⟨rfl, rfl⟩)

/-- '[]rune(s)', its runes as a list. -/
theorem run_runes (s : ByteArray) (w : World) (hs : s.size ≤ 20000) : ∃ cap RS, (convert 9 31 (.string s)).run Ybaf.prog w = .ok (.slice (some ⟨w.heap.size, 0, none⟩) (runesL s s.size 0).length cap) (w.drew.alloc (.cells RS 21)) ∧ ∀ j, j < (runesL s s.size 0).length → RS[j]? = some (.int .i32 ((runesL s s.size 0).getD j 0)) := by
  have hl := runesL_length s s.size 0
  have he : Conv.runesFrom s s.size 0 #[] = ((runesL s s.size 0).map (fun (r : Nat) => Value.int .i32 (r : Int))).toArray := by
    rw [runesFrom_eq]; simp
  have hsz : (Conv.runesFrom s s.size 0 #[]).size = (runesL s s.size 0).length := by rw [he]; simp
  have h := run_runes_of_string w 9 31 21 s Ybaf.underlying9 Ybaf.underlying31 Ybaf.underlying21 (by omega)
  rw [hsz] at h
  refine ⟨_, _, h, ?_⟩
  intro j hj
  rw [he]
  simp [Array.getElem?_append, hj, List.getD]
end Go.Proofs.YbulkcdqoFmt
