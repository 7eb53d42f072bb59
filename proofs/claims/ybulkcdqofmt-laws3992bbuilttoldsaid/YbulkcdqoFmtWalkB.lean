/-
  The walk of checkCharacters.
-/
import Derived.Test.YbulkcdqoFmtWalkA
import Derived.Deep.LoopGhost
import Derived.Deep.Cut
import Derived.Deep.CutRange
import Derived.Deep.CutBlock
namespace Go.Proofs.YbulkcdqoFmt
open Go.RowKit Go.Extern.Stop Go.Stop Go.Extern
set_option maxRecDepth 100000
set_option linter.unusedSimpArgs false
set_option linter.unusedVariables false
attribute [local go_sem] call9 guardF fmt0 fmt0r fmt1 fmt1r op3_100 op3_100w op21_113 op21_113w ptr36 elem36 isError36

/-- A fact kept from the walk's rewriting. -/
structure Hid (p : Prop) : Prop where
  out : p

set_option maxHeartbeats 1000000 in
theorem check_any (F : Interp) (s : ByteArray) (w : World) (hF : F.answers w.tape) (hs : s.size ≤ 20000) :
    Calls Ybaf.prog 6 #[.string s] w fun e w' => (∃ v, e = .returned v ∧ ((allB s 0 ∧ v = .nilIface) ∨ (¬ allB s 0 ∧ ∃ a, v = .iface 36 (.pointer (some a))))) ∧ Below w.heap.size w w' := by
  obtain ⟨cap, RS, hcv, hRS⟩ := run_runes s w hs
  have hall := all_iff s s.size 0 (by omega)
  have hl := runesL_length s s.size 0
  obtain ⟨rs, hrs⟩ : ∃ rs, rs = runesL s s.size 0 := ⟨_, rfl⟩
  rw [← hrs] at hcv hRS hall hl
  clear hrs
  have hcell : ∀ j, j < rs.length → (w.drew.alloc (.cells RS 21)).cell? ⟨w.heap.size, j, none⟩ = some (.int .i32 (rs.getD j 0)) := fun j hj => by
    rw [← hRS j hj, World.cell?, show (w.drew.alloc (.cells RS 21)).heap[w.heap.size]? = _ from heap_alloc_new w.drew _]
    rfl
  have hF' : ∀ i name reading k range, (w.drew.alloc (.cells RS 21)).tape i (.extern (word name reading k) range) = F name reading k := hF
  have hbel : Hid (Below w.heap.size w (w.drew.alloc (.cells RS 21))) := ⟨(Below.refl _ _).drew.alloc (Nat.le_refl _) _⟩
  have HALL : Hid ((∀ r ∈ rs, okN (r : Int) = true) ↔ allB s 0) := ⟨hall⟩
  clear hall hRS
  obtain ⟨W1, hW1⟩ : ∃ W1, W1 = w.drew.alloc (.cells RS 21) := ⟨_, rfl⟩
  rw [← hW1] at hcv hcell hF' hbel
  clear hW1
  go_enter Ybaf.func6, Ybaf.ntmps6
  go_wp2
  go_loopw [8] (fun i wr => ∃ k : Nat, k ≤ rs.length ∧ i = .int .i64 k ∧ W1 = wr ∧ Hid (∀ j, j < k → okN (rs.getD j 0 : Nat) = true)) (fun i _ => rs.length - (intOf i).toNat)
  case atStart => exact ⟨0, Nat.zero_le _, rfl, rfl, ⟨fun j hj => by omega⟩⟩
  case round =>
    obtain ⟨k, hk, rfl, rfl, hinv⟩ := hrel
    by_cases hlt : k < rs.length
    · have hc := hcell k hlt
      obtain ⟨r, hr⟩ : ∃ r, r = rs.getD k 0 := ⟨_, rfl⟩
      rw [← hr] at hc
      have HR : Hid (r = rs.getD k 0) := ⟨hr⟩
      have hchar := isChar_any (r : Int)
      clear hcell hr
      rcases hok : okN (r : Int) with _ | _
      · go_wp2_with (first | (go_at_call 7; refine (hchar _).mono ?_; rw [hok]; rintro e w' ⟨rfl, rfl⟩) | go_in)
        go_ret
        refine ⟨⟨_, rfl, Or.inr ⟨fun h => ?_, _, rfl⟩⟩, ?_⟩
        · have := HALL.out.2 h r (by rw [HR.out]; simp [List.getD, hlt])
          rw [hok] at this
          cases this
        · have hb := hbel.out
          have hz : w.heap.size ≤ W1.heap.size := hb.size
          first
            | exact ((hb.alloc (by omega) _).alloc (by simp; omega) _).drew
            | exact (((hb.alloc (by omega) _).drew).alloc (by simp; omega) _)
            | exact (((hb.alloc (by omega) _).drew).alloc (by simp; omega) _).drew
      · go_wp2_with (go_at_call 7; refine (hchar _).mono ?_; rw [hok]; rintro e w' ⟨rfl, rfl⟩)
        go_roundw
        case rel => exact ⟨k + 1, by omega, by go_num, trivial, ⟨fun j hj => by
          by_cases e : j = k
          · subst e; rw [← HR.out]; exact hok
          · exact hinv.out j (by omega)⟩⟩
        case measure => simp [intOf]; omega
    · go_wp2
      go_ret
      refine ⟨⟨_, rfl, Or.inl ⟨HALL.out.1 fun r hr => ?_, rfl⟩⟩, hbel.out⟩
      obtain ⟨j, hj, rfl⟩ := List.mem_iff_getElem.1 hr
      have := hinv.out j (by omega)
      rwa [show rs.getD j 0 = rs[j] from by simp [List.getD, hj]] at this
end Go.Proofs.YbulkcdqoFmt
