/-
  The walk of the law Allowed.
-/
import Derived.Test.YbulkcdqoFmtWalkB
namespace Go.Proofs.YbulkcdqoFmt
open Go.RowKit Go.Extern.Stop Go.Stop Go.Extern
set_option maxRecDepth 100000
set_option linter.unusedSimpArgs false
set_option linter.unusedVariables false

theorem get_eq (s : ByteArray) (k : Nat) (h : k < s.size) : s.get! k = s[k]'h := by
  show s.data[k]! = s.data[k]'h
  exact getElem!_pos s.data k h

theorem check_good (F : Interp) (s : ByteArray) (w : World) (hF : F.answers w.tape) (hs : s.size ≤ 20000) (h : allB s 0) :
    Calls Ybaf.prog 6 #[.string s] w fun e w' => e = .returned .nilIface ∧ Below w.heap.size w w' := by
  refine (check_any F s w hF hs).mono ?_
  rintro e w' ⟨⟨v, rfl, ⟨_, rfl⟩ | ⟨hn, _⟩⟩, hb⟩
  · exact ⟨rfl, hb⟩
  · exact absurd h hn

theorem check_bad (F : Interp) (s : ByteArray) (w : World) (hF : F.answers w.tape) (hs : s.size ≤ 20000) (h : ¬ allB s 0) :
    Calls Ybaf.prog 6 #[.string s] w fun e w' => (∃ a, e = .returned (.iface 36 (.pointer (some a)))) ∧ Below w.heap.size w w' := by
  refine (check_any F s w hF hs).mono ?_
  rintro e w' ⟨⟨v, rfl, ⟨hn, rfl⟩ | ⟨hn, a, rfl⟩⟩, hb⟩
  · exact absurd hn h
  · exact ⟨⟨a, rfl⟩, hb⟩

set_option maxHeartbeats 1000000 in
theorem allowed_any (F : Interp) (s : ByteArray) (w : World) (hF : F.answers w.tape) :
    Calls Ybaf.prog 3 #[.string s] w fun e w' => e = .returned (.bool true) ∧ Below w.heap.size w w' := by
  by_cases hs : s.size ≤ 4096
  · have hF0 : Hid (F.answers w.tape) := ⟨hF⟩
    clear hF
    go_enter Ybaf.func3, Ybaf.ntmps3
    go_wp2
    go_loopw [3, 4] (fun b i wr => ∃ k : Nat, k ≤ s.size ∧ i = .int .i64 k ∧ b = .bool true ∧ w = wr ∧ Hid (∀ j, j < k → okN (s.get! j).toNat = true)) (fun _ i _ => s.size - (intOf i).toNat)
    case atStart => exact ⟨0, Nat.zero_le _, rfl, rfl, rfl, ⟨fun j hj => by omega⟩⟩
    case round =>
      obtain ⟨k, hk, rfl, rfl, rfl, hinv⟩ := hrel
      by_cases hlt : k < s.size
      · have hchar := ok_any (((s[k]'hlt).toNat : Nat) : Int)
        have HG : Hid (s.get! k = s[k]'hlt) := ⟨get_eq s k hlt⟩
        rcases hok : okN (((s[k]'hlt).toNat : Nat) : Int) with _ | _
        · have HC : Hid (Calls Ybaf.prog 6 #[.string s] w fun e w' => (∃ a, e = .returned (.iface 36 (.pointer (some a)))) ∧ Below w.heap.size w w') := ⟨check_bad F s w hF0.out (by omega) (fun h => by
            have := h k (Nat.zero_le _) hlt
            rw [HG.out, hok] at this
            cases this)⟩
          go_wp2_with (first | (go_at_call 5; refine (hchar _).mono ?_; rw [hok]; rintro e w' ⟨rfl, rfl⟩) | (go_at_call 6; refine HC.out.mono ?_; rintro e w' ⟨⟨a, rfl⟩, hb⟩))
          go_ret
          exact ⟨rfl, hb⟩
        · go_wp2_with (first | (go_at_call 5; refine (hchar _).mono ?_; rw [hok]; rintro e w' ⟨rfl, rfl⟩))
          go_roundw
          case rel => exact ⟨k + 1, by omega, by go_num, rfl, trivial, ⟨fun j hj => by
            by_cases e : j = k
            · subst e; rw [HG.out]; exact hok
            · exact hinv.out j (by omega)⟩⟩
          case measure => simp [intOf]; omega
      · have HC : Hid (Calls Ybaf.prog 6 #[.string s] w fun e w' => e = .returned .nilIface ∧ Below w.heap.size w w') := ⟨check_good F s w hF0.out (by omega) (fun j _ hj => hinv.out j (by omega))⟩
        go_wp2_with (first | (go_at_call 6; refine HC.out.mono ?_; rintro e w' ⟨rfl, hb⟩))
        go_ret
        exact ⟨rfl, hb⟩
  · go_enter Ybaf.func3, Ybaf.ntmps3
    go_wp2
    go_ret
    exact ⟨rfl, Below.refl _ _⟩
end Go.Proofs.YbulkcdqoFmt
