/-
  zzs3987bstatus, zzs3987bbare.
-/
import Derived.Test.YbulkcdnwBase
import Derived.WalkLawsBesides
namespace Go.Proofs.Ybulkcdnw
open Go.RowKit
set_option maxRecDepth 100000
set_option linter.unusedSimpArgs false
set_option linter.unusedVariables false

def stOf (k : Int) : ByteArray := if k % 4 = 0 then ⟨#[106, 111, 105, 110, 105, 110, 103]⟩ else if k % 4 = 1 then ⟨#[97, 100, 109, 105, 116, 116, 101, 100]⟩ else if k % 4 = 2 then ⟨#[109, 101, 109, 98, 101, 114]⟩ else ⟨#[115, 116, 111, 112, 112, 101, 100]⟩

theorem status_any (k : Int) (h0 : 0 ≤ k) (h1 : k ≤ 255) (w : World) :
    Calls Yba.prog 13 #[.int .u8 k] w fun e w' => e = .returned (.string (stOf k)) ∧ w' = w := by
  have hk : k % 4 = 0 ∨ k % 4 = 1 ∨ k % 4 = 2 ∨ k % 4 = 3 := by omega
  unfold stOf
  rcases hk with h | h | h | h
  all_goals
    go_enter Yba.func13, Yba.ntmps13
    go_wp2
    go_ret
    exact ⟨by simp [h], rfl⟩

theorem bare_any (m0 m1 m2 m3 m5 m15 : Value) (w : World) :
    Calls Yba.prog 15 #[.agg #[m0, m1, m2, m3, .slice none 0 0, .pointer none, m5, .pointer none, .pointer none, .pointer none, .pointer none, .pointer none, .pointer none, .pointer none, .slice none 0 0, .map none, m15, .pointer none]] w
      fun e w' => e = .returned (.bool true) ∧ ∃ c, w' = w.alloc (.cells c 81) := by
  have e1 := fun (w : World) (a : Option Addr) (n c : Nat) => Lib.run_eql_slice_nil (P := Yba.prog) w 37 33 a n c 0 0 Yba.underlying37
  have e2 := fun (w : World) (r : Option Nat) => run_eql_map_nil (P := Yba.prog) w 59 9 142 r Yba.underlying59
  go_enter Yba.func15, Yba.ntmps15
  go_wp2
  go_ret
  exact ⟨rfl, _, rfl⟩
end Go.Proofs.Ybulkcdnw
