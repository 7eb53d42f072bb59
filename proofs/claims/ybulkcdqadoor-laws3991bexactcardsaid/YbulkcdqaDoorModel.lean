/-
  zzs3991bmodel by its contract.
-/
import Derived.Test.YbulkcdqaDoorHead3
namespace Go.Proofs.YbulkcdqaDoor
open Go.RowKit
set_option maxRecDepth 100000
set_option linter.unusedSimpArgs false
set_option linter.unusedVariables false

set_option maxHeartbeats 1000000 in
theorem model_short (ao : Option Addr) (len cap : Nat) (p : Int) (w : World) (hl : len < 2) :
    Calls Ybad.prog 6 #[.slice ao len cap, .int .i64 p] w fun e w' => e = .returned (.tuple #[.int .i64 1, .int .i64 p]) ∧ Kept (fun _ => True) w w' := by
  have hl' : (len : Int) < 2 := by omega
  go_enter Ybad.func6, Ybad.ntmps6
  go_wp2
  go_ret2
  exact ⟨rfl, Kept.refl _ _⟩

set_option maxHeartbeats 1000000 in
theorem model_bad (b off len cap : Nat) (x y p : Int) (w : World) (hl : 2 ≤ len) (hlm : len ≤ 10000)
    (hx : w.cell? ⟨b, off, none⟩ = some (.int .u8 x)) (hy : w.cell? ⟨b, off + 1, none⟩ = some (.int .u8 y)) (x0 : 0 ≤ x) (x1 : x ≤ 255) (y0 : 0 ≤ y) (y1 : y ≤ 255) (hu : unsound x y = true) :
    Calls Ybad.prog 6 #[.slice (some ⟨b, off, none⟩) len cap, .int .i64 p] w fun e w' => e = .returned (.tuple #[.int .i64 2, .int .i64 p]) ∧ Kept (fun _ => True) w w' := by
  have hl' : (2 : Int) ≤ (len : Int) := by omega
  have hl1 : (1 : Int) < (len : Int) := by omega
  have hl0 : (0 : Int) < (len : Int) := by omega
  rcases ha : (bits BinOp.and IntKind.u8 x 15 != 8) with _ | _
  · rcases hb7 : decide (7 < x / 16) with _ | _
    · have hc3 : ((x * 256 + y) % 31 != 0) = true := by
        unfold unsound at hu
        rw [ha, hb7] at hu
        simpa using hu
      have pa : x % 16 = 8 := by rw [← and15 x x0 x1]; simpa using ha
      have pb : ¬ 7 < x / 16 := by simpa using hb7
      clear hu ha hb7
      go_enter Ybad.func6, Ybad.ntmps6
      go_wp2
      go_quiet (fail)
      go_wp2
      go_ret2
      exact ⟨rfl, (Kept.refl _ _).drewN _⟩
    · have pa : x % 16 = 8 := by rw [← and15 x x0 x1]; simpa using ha
      have pb : 7 < x / 16 := by simpa using hb7
      clear hu ha hb7
      go_enter Ybad.func6, Ybad.ntmps6
      go_wp2
      go_quiet (fail)
      go_wp2
      go_ret2
      exact ⟨rfl, (Kept.refl _ _).drewN _⟩
  · have pa : ¬ x % 16 = 8 := by rw [← and15 x x0 x1]; simpa using ha
    clear hu ha
    go_enter Ybad.func6, Ybad.ntmps6
    go_wp2
    go_quiet (fail)
    go_wp2
    go_ret2
    exact ⟨rfl, (Kept.refl _ _).drewN _⟩

set_option maxHeartbeats 1000000 in
theorem model_plain (b off len cap : Nat) (x y p : Int) (w : World) (hl : 2 ≤ len) (hlm : len ≤ 10000)
    (hx : w.cell? ⟨b, off, none⟩ = some (.int .u8 x)) (hy : w.cell? ⟨b, off + 1, none⟩ = some (.int .u8 y)) (x0 : 0 ≤ x) (x1 : x ≤ 255) (y0 : 0 ≤ y) (y1 : y ≤ 255) (hu : unsound x y = false) (hd : bits BinOp.and IntKind.u8 y 32 = 0) :
    Calls Ybad.prog 6 #[.slice (some ⟨b, off, none⟩) len cap, .int .i64 p] w fun e w' => e = .returned (.tuple #[.int .i64 0, .int .i64 2]) ∧ Kept (fun _ => True) w w' := by
  have hl' : (2 : Int) ≤ (len : Int) := by omega
  have hl1 : (1 : Int) < (len : Int) := by omega
  have hl0 : (0 : Int) < (len : Int) := by omega
  obtain ⟨ha2, hb8, hc4⟩ := sound_of x0 y0 hu
  have pa : x % 16 = 8 := by rw [← and15 x x0 x1]; exact ha2
  clear hu ha2
  have hd' : (bits BinOp.and IntKind.u8 y 32 == 0) = true := by simp [hd]
  go_enter Ybad.func6, Ybad.ntmps6
  go_wp2
  go_quiet (fail)
  go_wp2
  go_ret2
  exact ⟨rfl, (Kept.refl _ _).drewN _⟩

set_option maxHeartbeats 1000000 in
theorem model_cut (b off len cap : Nat) (x y p : Int) (w : World) (hl : 2 ≤ len) (hlm : len ≤ 10000)
    (hx : w.cell? ⟨b, off, none⟩ = some (.int .u8 x)) (hy : w.cell? ⟨b, off + 1, none⟩ = some (.int .u8 y)) (x0 : 0 ≤ x) (x1 : x ≤ 255) (y0 : 0 ≤ y) (y1 : y ≤ 255) (hu : unsound x y = false) (hd : (bits BinOp.and IntKind.u8 y 32 != 0) = true) (hl6 : len < 6) :
    Calls Ybad.prog 6 #[.slice (some ⟨b, off, none⟩) len cap, .int .i64 p] w fun e w' => e = .returned (.tuple #[.int .i64 1, .int .i64 2]) ∧ Kept (fun _ => True) w w' := by
  have hl' : (2 : Int) ≤ (len : Int) := by omega
  have hl1 : (1 : Int) < (len : Int) := by omega
  have hl0 : (0 : Int) < (len : Int) := by omega
  obtain ⟨ha2, hb8, hc4⟩ := sound_of x0 y0 hu
  have pa : x % 16 = 8 := by rw [← and15 x x0 x1]; exact ha2
  clear hu ha2
  have hd' : (bits BinOp.and IntKind.u8 y 32 == 0) = false := by simpa using hd
  clear hd
  have hl6' : (len : Int) < 6 := by omega
  go_enter Ybad.func6, Ybad.ntmps6
  go_wp2
  go_quiet (fail)
  go_wp2
  go_ret2
  exact ⟨rfl, (Kept.refl _ _).drewN _⟩

set_option maxHeartbeats 1000000 in
theorem model_empty (b off len cap : Nat) (x y p : Int) (w : World) (hl : 2 ≤ len) (hlm : len ≤ 10000)
    (hx : w.cell? ⟨b, off, none⟩ = some (.int .u8 x)) (hy : w.cell? ⟨b, off + 1, none⟩ = some (.int .u8 y)) (x0 : 0 ≤ x) (x1 : x ≤ 255) (y0 : 0 ≤ y) (y1 : y ≤ 255) (hu : unsound x y = false) (hd : (bits BinOp.and IntKind.u8 y 32 != 0) = true) (hl6 : 6 ≤ len) (z2 z3 z4 z5 : Int) (c2 : w.cell? ⟨b, off + 2, none⟩ = some (.int .u8 z2)) (c3 : w.cell? ⟨b, off + 3, none⟩ = some (.int .u8 z3)) (c4 : w.cell? ⟨b, off + 4, none⟩ = some (.int .u8 z4)) (c5 : w.cell? ⟨b, off + 5, none⟩ = some (.int .u8 z5)) (a2 : 0 ≤ z2 ∧ z2 ≤ 255) (a3 : 0 ≤ z3 ∧ z3 ≤ 255) (a4 : 0 ≤ z4 ∧ z4 ≤ 255) (a5 : 0 ≤ z5 ∧ z5 ≤ 255) (hs : (z2 * 16777216 + z3 * 65536 + z4 * 256 + z5 != 1) = false) :
    Calls Ybad.prog 6 #[.slice (some ⟨b, off, none⟩) len cap, .int .i64 p] w fun e w' => e = .returned (.tuple #[.int .i64 0, .int .i64 6]) ∧ Kept (fun _ => True) w w' := by
  have hl' : (2 : Int) ≤ (len : Int) := by omega
  have hl1 : (1 : Int) < (len : Int) := by omega
  have hl0 : (0 : Int) < (len : Int) := by omega
  obtain ⟨ha2, hb8, hc4⟩ := sound_of x0 y0 hu
  have pa : x % 16 = 8 := by rw [← and15 x x0 x1]; exact ha2
  clear hu ha2
  have hd' : (bits BinOp.and IntKind.u8 y 32 == 0) = false := by simpa using hd
  clear hd
  have hl6' : (6 : Int) ≤ (len : Int) := by omega
  have hl2 : (2 : Int) < (len : Int) := by omega
  have hl3 : (3 : Int) < (len : Int) := by omega
  have hl4 : (4 : Int) < (len : Int) := by omega
  have hl5 : (5 : Int) < (len : Int) := by omega
  have hs' : z2 * 16777216 + z3 * 65536 + z4 * 256 + z5 = 1 := by simpa using hs
  clear hs
  obtain rfl : z2 = 0 := by omega
  obtain rfl : z3 = 0 := by omega
  obtain rfl : z4 = 0 := by omega
  obtain rfl : z5 = 1 := by omega
  clear hs' a2 a3 a4 a5
  go_enter Ybad.func6, Ybad.ntmps6
  go_wp2
  go_quiet (fail)
  go_wp2
  go_ret2
  exact ⟨rfl, (Kept.refl _ _).drewN _⟩

set_option maxHeartbeats 1000000 in
theorem model_dict (b off len cap : Nat) (x y p : Int) (w : World) (hl : 2 ≤ len) (hlm : len ≤ 10000)
    (hx : w.cell? ⟨b, off, none⟩ = some (.int .u8 x)) (hy : w.cell? ⟨b, off + 1, none⟩ = some (.int .u8 y)) (x0 : 0 ≤ x) (x1 : x ≤ 255) (y0 : 0 ≤ y) (y1 : y ≤ 255) (hu : unsound x y = false) (hd : (bits BinOp.and IntKind.u8 y 32 != 0) = true) (hl6 : 6 ≤ len) (z2 z3 z4 z5 : Int) (c2 : w.cell? ⟨b, off + 2, none⟩ = some (.int .u8 z2)) (c3 : w.cell? ⟨b, off + 3, none⟩ = some (.int .u8 z3)) (c4 : w.cell? ⟨b, off + 4, none⟩ = some (.int .u8 z4)) (c5 : w.cell? ⟨b, off + 5, none⟩ = some (.int .u8 z5)) (a2 : 0 ≤ z2 ∧ z2 ≤ 255) (a3 : 0 ≤ z3 ∧ z3 ≤ 255) (a4 : 0 ≤ z4 ∧ z4 ≤ 255) (a5 : 0 ≤ z5 ∧ z5 ≤ 255) (hs : (z2 * 16777216 + z3 * 65536 + z4 * 256 + z5 != 1) = true) :
    Calls Ybad.prog 6 #[.slice (some ⟨b, off, none⟩) len cap, .int .i64 p] w fun e w' => e = .returned (.tuple #[.int .i64 3, .int .i64 2]) ∧ Kept (fun _ => True) w w' := by
  have hl' : (2 : Int) ≤ (len : Int) := by omega
  have hl1 : (1 : Int) < (len : Int) := by omega
  have hl0 : (0 : Int) < (len : Int) := by omega
  obtain ⟨ha2, hb8, hc4⟩ := sound_of x0 y0 hu
  have pa : x % 16 = 8 := by rw [← and15 x x0 x1]; exact ha2
  clear hu ha2
  have hd' : (bits BinOp.and IntKind.u8 y 32 == 0) = false := by simpa using hd
  clear hd
  have hl6' : (6 : Int) ≤ (len : Int) := by omega
  have hl2 : (2 : Int) < (len : Int) := by omega
  have hl3 : (3 : Int) < (len : Int) := by omega
  have hl4 : (4 : Int) < (len : Int) := by omega
  have hl5 : (5 : Int) < (len : Int) := by omega
  rcases n2 : (z2 != 0) with _ | _
  · rcases n3 : (z3 != 0) with _ | _
    · rcases n4 : (z4 != 0) with _ | _
      · have n5 : (z5 != 1) = true := by
          simp at n2 n3 n4 hs ⊢
          omega
        clear hs a2 a3 a4 a5
        go_enter Ybad.func6, Ybad.ntmps6
        go_wp2
        go_quiet (fail)
        go_wp2
        go_ret2
        exact ⟨rfl, (Kept.refl _ _).drewN _⟩
      · clear hs a2 a3 a4 a5
        go_enter Ybad.func6, Ybad.ntmps6
        go_wp2
        go_quiet (fail)
        go_wp2
        go_ret2
        exact ⟨rfl, (Kept.refl _ _).drewN _⟩
    · clear hs a2 a3 a4 a5
      go_enter Ybad.func6, Ybad.ntmps6
      go_wp2
      go_quiet (fail)
      go_wp2
      go_ret2
      exact ⟨rfl, (Kept.refl _ _).drewN _⟩
  · clear hs a2 a3 a4 a5
    go_enter Ybad.func6, Ybad.ntmps6
    go_wp2
    go_quiet (fail)
    go_wp2
    go_ret2
    exact ⟨rfl, (Kept.refl _ _).drewN _⟩
end Go.Proofs.YbulkcdqaDoor
