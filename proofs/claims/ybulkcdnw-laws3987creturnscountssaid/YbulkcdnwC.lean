/-
  The walks of (*Agent).Sent and of the law C, over the contracts of the lock.
-/
import Derived.Test.YbulkcdnwLocks
import Derived.RowKit3
namespace Go.Proofs.Ybulkcdnw
open Go.RowKit
set_option maxRecDepth 100000

theorem sent_any (b : Nat) (h c r : Int) (w : World) (hb : b < w.heap.size)
    (h0 : w.cell? ⟨b, 17, none⟩ = some (.int .i32 0)) (f0 : w.frozen? ⟨b, 17, none⟩ = false)
    (c0 : w.cell? ⟨b, 19, none⟩ = some (.int .u64 h)) (c1 : w.cell? ⟨b, 20, none⟩ = some (.int .u64 c)) (c2 : w.cell? ⟨b, 21, none⟩ = some (.int .u64 r)) :
    Calls Yba.prog 16 #[.pointer (some ⟨b, 0, none⟩)] w fun e w' => e = .returned (.agg #[.int .u64 h, .int .u64 c, .int .u64 r]) ∧
      w' = ((w.setCell ⟨b, 17, none⟩ (.int .i32 1)).setCell ⟨b, 17, none⟩ (.int .i32 0)).alloc (.cells #[.int .u64 h, .int .u64 c, .int .u64 r] 93) := by
  have hbn : b ≠ w.heap.size := by omega
  have g0 : ∀ o, (w.alloc o).cell? ⟨b, 17, none⟩ = some (.int .i32 0) := fun o => by rw [World.cell?_alloc_past _ _ _ hb]; exact h0
  have g1 : ∀ o, (w.alloc o).frozen? ⟨b, 17, none⟩ = false := fun o => by rw [World.frozen?_alloc_past _ _ _ hb]; exact f0
  go_enter_defers Yba.func16, Yba.ntmps16
  go_wp2_with (go_at_call 28; refine (lock_free ⟨b, 17, none⟩ _ (g0 _) (g1 _)).mono ?_; rintro e w' ⟨rfl, rfl⟩)
  refine leaves_cons (f := 18) (args := #[.pointer (some ⟨b, 17, none⟩)]) (by simp) (by simp [go_sem]) ?_
  refine (unlock_deferred ⟨b, 17, none⟩ .returning _ ?_ ?_).mono ?_
  · rw [World.cell?_alloc_past _ _ _ (by simpa using hb)]
    exact World.cell?_setCell_same w ⟨b, 17, none⟩ (.int .i32 1) h0
  · rw [World.frozen?_alloc_past _ _ _ (by simpa using hb)]
    simp [f0]
  rintro e u' w'' ⟨rfl, rfl, rfl⟩
  refine ⟨.agg #[.int .u64 h, .int .u64 c, .int .u64 r], ?_, rfl, ?_⟩
  · simp [results, Yba.results16, go_sem]
  · rw [World.setCell_alloc_past _ _ _ _ (by simpa using hb)]

theorem walkC (a0 a1 a2 : Int) (w : World) :
    Calls Yba.prog 5 #[.int .u64 a0, .int .u64 a1, .int .u64 a2] w fun e w' => e = .returned (.bool true) ∧ Grown w w' := by
  go_enter Yba.func5, Yba.ntmps5
  go_wp2_with (first
    | (go_at_call 16; go_must (refine (sent_any (w.heap.size + 1) a0 a1 a2 _ ?_ ?_ ?_ ?_ ?_ ?_).mono ?_; (· simp); (· simp [go_sem]); (· simp [go_sem]); (· simp [go_sem]); (· simp [go_sem]); (· simp [go_sem]); rintro e w' ⟨rfl, rfl⟩))
    | (go_at_call 17; go_must (refine (trylock_free ⟨w.heap.size + 1, 17, none⟩ _ ?_ ?_).mono ?_; (· simp [go_sem]); (· simp [go_sem]); rintro e w' ⟨rfl, rfl⟩))
    | (go_at_call 18; go_must (refine (unlock_held ⟨w.heap.size + 1, 17, none⟩ _ ?_ ?_).mono ?_; (· simp [go_sem]); (· simp [go_sem]); rintro e w' ⟨rfl, rfl⟩)))
  go_region
  go_wp2_with (first
    | (go_at_call 16; go_must (refine (sent_any (w.heap.size + 1) a0 a1 a2 _ ?_ ?_ ?_ ?_ ?_ ?_).mono ?_; (· simp); (· simp [go_sem]); (· simp [go_sem]); (· simp [go_sem]); (· simp [go_sem]); (· simp [go_sem]); rintro e w' ⟨rfl, rfl⟩))
    | (go_at_call 17; go_must (refine (trylock_free ⟨w.heap.size + 1, 17, none⟩ _ ?_ ?_).mono ?_; (· simp [go_sem]); (· simp [go_sem]); rintro e w' ⟨rfl, rfl⟩))
    | (go_at_call 18; go_must (refine (unlock_held ⟨w.heap.size + 1, 17, none⟩ _ ?_ ?_).mono ?_; (· simp [go_sem]); (· simp [go_sem]); rintro e w' ⟨rfl, rfl⟩)))
  go_ret
  exact ⟨rfl, by repeat (first | exact Grown.refl _ | apply Grown.drew | apply Grown.alloc)⟩
end Go.Proofs.Ybulkcdnw
