/-
  slices.Contains of identities; what choose asks of an empty queue of joins.
-/
import Derived.Test.YbulkcdnwA5
import Derived.Laws.Cover3
namespace Go.Proofs.Ybulkcdnw
open Go.RowKit
set_option maxRecDepth 100000
set_option linter.unusedSimpArgs false
set_option linter.unusedVariables false

theorem hasK_snoc (l : List (ByteArray × Int)) (q p : ByteArray × Int) : hasK (l ++ [q]) p = (hasK l p || sameId p q) := by simp [hasK]
theorem take_snoc_id (l : List (ByteArray × Int)) (k : Nat) (hk : k < l.length) : l.take (k + 1) = l.take k ++ [l.getD k id0] := by
  rw [List.take_add_one, List.getElem?_eq_getElem hk]
  simp [List.getD, hk]
theorem hasK_take_true {l : List (ByteArray × Int)} {p : ByteArray × Int} {k : Nat} (h : hasK (l.take k) p = true) : hasK l p = true := by
  rw [hasK, List.any_eq_true] at h ⊢
  obtain ⟨x, hx, hs⟩ := h
  exact ⟨x, List.mem_of_mem_take hx, hs⟩

set_option maxHeartbeats 1000000 in
theorem index_any (l : List (ByteArray × Int)) (va : Value) (a : ByteArray) (x : Int) (w : World) (ha : OwnI w va l) (hl : l.length ≤ 1000) :
    Calls Yba.prog 56 #[va, .agg #[.string a, .int .u64 x]] w fun e w' => (∃ r : Int, e = .returned (.int .i64 r) ∧ decide (0 ≤ r) = hasK l (a, x)) ∧ Kept (fun _ => True) w w' := by
  obtain ⟨aa, ca, rfl, ga⟩ := own_shape ha
  have HA := Shy.mk ga
  clear ha ga
  have hq := run_eql33
  go_enter Yba.func56, Yba.ntmps56
  go_wp2
  go_loopw [8] (fun i wr => ∃ k m : Nat, k ≤ l.length ∧ i = .int .i64 k ∧ Shy (hasK (l.take k) (a, x) = false) ∧ wr = (w.alloc (.cells #[.string a, .int .u64 x] 33)).drewN m) (fun i _ => l.length - (intOf i).toNat)
  case atStart => exact ⟨0, 0, Nat.zero_le _, rfl, ⟨rfl⟩, rfl⟩
  case round =>
    obtain ⟨k, m, hk, rfl, HF, rfl⟩ := hrel
    by_cases hlt : k < l.length
    · obtain ⟨b1, rfl, hb1, h1⟩ := HA.out (by omega)
      obtain ⟨c1, c2⟩ := OwnI.at h1 hlt
      obtain ⟨p, hp⟩ : ∃ p, l.getD k id0 = p := ⟨_, rfl⟩
      rw [hp] at c1 c2
      have HP := Shy.mk hp
      clear h1 hp
      have e1 : b1 ≠ w.heap.size := by omega
      cases hs : (a.toList == p.1.toList && x == p.2) with
      | true =>
        go_wp2
        go_quiet (fail)
        go_wp2
        go_ret
        refine ⟨⟨_, rfl, ?_⟩, (((Kept.refl _ _).alloc _).drewN _).drewN _⟩
        rw [hasK_take_true (k := k + 1) (by rw [take_snoc_id l k hlt, hasK_snoc, HP.out, HF.out]; exact hs)]
        simp
      | false =>
        go_wp2
        go_quiet (fail)
        go_wp2
        go_roundw
        case rel => exact ⟨k + 1, _, by omega, by go_num, ⟨by rw [take_snoc_id l k hlt, hasK_snoc, HP.out, HF.out]; exact hs⟩, rfl⟩
        case measure => simp [intOf]; omega
    · go_wp2
      go_ret
      obtain rfl : k = l.length := by omega
      have hf := HF.out
      rw [List.take_length] at hf
      exact ⟨⟨-1, rfl, by rw [hf]; rfl⟩, ((Kept.refl _ _).alloc _).drewN _⟩

set_option maxHeartbeats 1000000 in
theorem contains_any (l : List (ByteArray × Int)) (va : Value) (a : ByteArray) (x : Int) (w : World) (ha : OwnI w va l) (hl : l.length ≤ 1000) :
    Calls Yba.prog 40 #[va, .agg #[.string a, .int .u64 x]] w fun e w' => e = .returned (.bool (hasK l (a, x))) ∧ Kept (fun _ => True) w w' := by
  have HC := Shy.mk (index_any l va a x (w.alloc (.cells #[.string a, .int .u64 x] 33)) (ha.kept ((Kept.refl (fun _ => True) w).alloc _)) hl)
  clear ha
  go_enter Yba.func40, Yba.ntmps40
  go_wp2_with (go_at_call 56; refine HC.out.mono ?_; rintro e w1 ⟨⟨r, rfl, hr⟩, hk1⟩; have HK := Shy.mk (And.intro hr hk1); clear hr hk1)
  go_ret
  exact ⟨congrArg (fun b => Ending.returned (.bool b)) HK.out.1, ((Kept.refl _ _).alloc _).trans HK.out.2⟩

set_option maxHeartbeats 1000000 in
theorem idx_nil (g : Value) (w : World) : Calls Yba.prog 50 #[.slice none 0 0, g] w fun e w' => e = .returned (.int .i64 (-1)) ∧ w = w' := by
  go_enter Yba.func50, Yba.ntmps50
  go_wp2
  go_loopw [8] (fun i wr => i = .int .i64 0 ∧ w = wr) (fun i _ => 0)
  case atStart => exact ⟨rfl, rfl⟩
  case round =>
    obtain ⟨rfl, rfl⟩ := hrel
    go_wp2
    go_ret
    exact ⟨rfl, rfl⟩
set_option maxHeartbeats 1000000 in
theorem del_nil (g : Value) (w : World) : Calls Yba.prog 31 #[.slice none 0 0, g] w fun e w' => e = .returned (.slice none 0 0) ∧ w = w' := by
  go_enter Yba.func31, Yba.ntmps31
  go_wp2_with (go_at_call 50; refine (idx_nil _ _).mono ?_; rintro e w1 ⟨rfl, rfl⟩)
  go_ret
  exact ⟨rfl, rfl⟩
theorem Yba.eql30 (a : Option Addr) (l c : Nat) (w : World) : (binOp .eql 30 (.slice a l c) (.slice none 0 0)).run Yba.prog w = .ok (.bool a.isNone) w := by
  simp only [binOp]
  simp [run_equal_slice_nil w 30 35 a l c Yba.underlying30]
attribute [local go_sem] Yba.eql30
set_option maxHeartbeats 1000000 in
theorem clone_nil (w : World) : Calls Yba.prog 33 #[.slice none 0 0] w fun e w' => e = .returned (.slice none 0 0) ∧ w = w' := by
  go_enter Yba.func33, Yba.ntmps33
  go_wp2
  go_ret
  exact ⟨rfl, rfl⟩
end Go.Proofs.Ybulkcdnw
