/-
  The small callees: Uint16, Uint32, Checksum(nil).
-/
import Derived.Test.YbulkcdqaDoorBase
import Derived.BigQuiet
import Derived.Deep.QuietTactic
import Derived.Deep.RegionHeld3
namespace Go.Proofs.YbulkcdqaDoor
open Go.RowKit
set_option maxRecDepth 100000
set_option linter.unusedSimpArgs false
set_option linter.unusedVariables false

theorem wrap_u16 (n : Int) : IntKind.u16.wrap n = n % 65536 := by simp [IntKind.wrap, IntKind.bits, IntKind.signed]
theorem wrap_u32 (n : Int) : IntKind.u32.wrap n = n % 4294967296 := by simp [IntKind.wrap, IntKind.bits, IntKind.signed]

theorem bits_or_u16 (a b : Nat) (ha : a < 65536) (hb : b < 65536) : bits .or .u16 (a : Int) (b : Int) = ((a ||| b : Nat) : Int) := by
  have hx : a ||| b < 2 ^ 16 := Nat.or_lt_two_pow (by omega) (by omega)
  have h1 : (BitVec.ofInt 16 (a : Int)).toNat = a := by
    rw [BitVec.ofInt_natCast, BitVec.toNat_ofNat]; exact Nat.mod_eq_of_lt (by omega)
  have h2 : (BitVec.ofInt 16 (b : Int)).toNat = b := by
    rw [BitVec.ofInt_natCast, BitVec.toNat_ofNat]; exact Nat.mod_eq_of_lt (by omega)
  show IntKind.u16.wrap ((BitVec.ofInt 16 (a : Int) ||| BitVec.ofInt 16 (b : Int)).toNat : Int) = _
  rw [BitVec.toNat_or, h1, h2, wrap_u16]
  omega
theorem bits_or_u32 (a b : Nat) (ha : a < 4294967296) (hb : b < 4294967296) : bits .or .u32 (a : Int) (b : Int) = ((a ||| b : Nat) : Int) := by
  have hx : a ||| b < 2 ^ 32 := Nat.or_lt_two_pow (by omega) (by omega)
  have h1 : (BitVec.ofInt 32 (a : Int)).toNat = a := by
    rw [BitVec.ofInt_natCast, BitVec.toNat_ofNat]; exact Nat.mod_eq_of_lt (by omega)
  have h2 : (BitVec.ofInt 32 (b : Int)).toNat = b := by
    rw [BitVec.ofInt_natCast, BitVec.toNat_ofNat]; exact Nat.mod_eq_of_lt (by omega)
  show IntKind.u32.wrap ((BitVec.ofInt 32 (a : Int) ||| BitVec.ofInt 32 (b : Int)).toNat : Int) = _
  rw [BitVec.toNat_or, h1, h2, wrap_u32]
  omega
theorem or_add (x y i : Nat) (hy : y < 2 ^ i) : y ||| x * 2 ^ i = x * 2 ^ i + y := by
  rw [Nat.or_comm, ← Nat.shiftLeft_eq, Nat.shiftLeft_add_eq_or_of_lt hy]

theorem or16 (x y : Int) (x0 : 0 ≤ x) (x1 : x ≤ 255) (y0 : 0 ≤ y) (y1 : y ≤ 255) : bits .or .u16 y (x * 256) = x * 256 + y := by
  obtain ⟨a, rfl⟩ := Int.eq_ofNat_of_zero_le x0
  obtain ⟨b, rfl⟩ := Int.eq_ofNat_of_zero_le y0
  have h := bits_or_u16 b (a * 256) (by omega) (by omega)
  rw [show ((a * 256 : Nat) : Int) = (a : Int) * 256 from by simp] at h
  rw [h, show a * 256 = a * 2 ^ 8 from rfl, or_add a b 8 (by omega)]
  simp

/-- Four bytes or-ed are one just where they are 0, 0, 0, 1. -/
theorem or32 (a b c d : Int) (a0 : 0 ≤ a) (a1 : a ≤ 255) (b0 : 0 ≤ b) (b1 : b ≤ 255) (c0 : 0 ≤ c) (c1 : c ≤ 255) (d0 : 0 ≤ d) (d1 : d ≤ 255) :
    bits .or .u32 (bits .or .u32 (bits .or .u32 d (c * 256)) (b * 65536)) (a * 16777216) = a * 16777216 + b * 65536 + c * 256 + d := by
  obtain ⟨a, rfl⟩ := Int.eq_ofNat_of_zero_le a0
  obtain ⟨b, rfl⟩ := Int.eq_ofNat_of_zero_le b0
  obtain ⟨c, rfl⟩ := Int.eq_ofNat_of_zero_le c0
  obtain ⟨d, rfl⟩ := Int.eq_ofNat_of_zero_le d0
  have h1 := bits_or_u32 d (c * 256) (by omega) (by omega)
  rw [show ((c * 256 : Nat) : Int) = (c : Int) * 256 from by simp, show c * 256 = c * 2 ^ 8 from rfl, or_add c d 8 (by omega)] at h1
  have h2 := bits_or_u32 (c * 2 ^ 8 + d) (b * 65536) (by omega) (by omega)
  rw [show ((b * 65536 : Nat) : Int) = (b : Int) * 65536 from by simp, show b * 65536 = b * 2 ^ 16 from rfl, or_add b _ 16 (by omega)] at h2
  have h3 := bits_or_u32 (b * 2 ^ 16 + (c * 2 ^ 8 + d)) (a * 16777216) (by omega) (by omega)
  rw [show ((a * 16777216 : Nat) : Int) = (a : Int) * 16777216 from by simp, show a * 16777216 = a * 2 ^ 24 from rfl, or_add a _ 24 (by omega)] at h3
  rw [h1, h2, h3]
  omega

set_option maxHeartbeats 1000000 in
theorem upd_nil (w : World) : Calls Ybad.prog 11 #[.int .u32 1, .slice none 0 0] w fun e w' => e = .returned (.int .u32 1) ∧ w = w' := by
  go_enter Ybad.func11, Ybad.ntmps11
  go_wp2
  go_loopw [1, 5, 6] (fun p s1 s2 wr => p = .slice none 0 0 ∧ s1 = .int .u32 1 ∧ s2 = .int .u32 0 ∧ w = wr) (fun _ _ _ _ => 0)
  case atStart => exact ⟨rfl, rfl, rfl, rfl⟩
  case round =>
    obtain ⟨rfl, rfl, rfl, rfl⟩ := hrel
    go_wp2
    go_ret
    exact ⟨rfl, rfl⟩

set_option maxHeartbeats 1000000 in
theorem sum_nil (w : World) : Calls Ybad.prog 10 #[.slice none 0 0] w fun e w' => e = .returned (.int .u32 1) ∧ w = w' := by
  go_enter Ybad.func10, Ybad.ntmps10
  go_wp2_with (go_at_call 11; refine (upd_nil _).mono ?_; rintro e w' ⟨rfl, rfl⟩)
  go_ret
  exact ⟨rfl, rfl⟩

set_option maxHeartbeats 1000000 in
theorem u16_any (b off len cap : Nat) (x y : Int) (w : World) (hx : w.cell? ⟨b, off, none⟩ = some (.int .u8 x)) (hy : w.cell? ⟨b, off + 1, none⟩ = some (.int .u8 y)) (x0 : 0 ≤ x) (x1 : x ≤ 255) (y0 : 0 ≤ y) (y1 : y ≤ 255)
    (hl : 2 ≤ len) (hb : b < w.heap.size) :
    Calls Ybad.prog 8 #[.agg #[], .slice (some ⟨b, off, none⟩) len cap] w fun e w' => e = .returned (.int .u16 (x * 256 + y)) ∧ ∃ n, w' = (w.alloc (.cells #[] 42)).drewN n := by
  have hne : b ≠ w.heap.size := by omega
  have hl2 : (1 : Int) < (len : Int) := by omega
  have hl3 : (0 : Int) < (len : Int) := by omega
  go_enter Ybad.func8, Ybad.ntmps8
  go_wp2
  go_quiet (fail)
  go_wp2
  go_ret
  refine ⟨?_, _, rfl⟩
  show Ending.returned (Value.int IntKind.u16 (bits BinOp.or IntKind.u16 y (x * 256))) = _
  rw [or16 x y x0 x1 y0 y1]

set_option maxHeartbeats 1000000 in
theorem u32_any (b off len cap : Nat) (x y z u : Int) (w : World) (hx : w.cell? ⟨b, off, none⟩ = some (.int .u8 x)) (hy : w.cell? ⟨b, off + 1, none⟩ = some (.int .u8 y)) (hz : w.cell? ⟨b, off + 2, none⟩ = some (.int .u8 z)) (hu : w.cell? ⟨b, off + 3, none⟩ = some (.int .u8 u))
    (x0 : 0 ≤ x) (x1 : x ≤ 255) (y0 : 0 ≤ y) (y1 : y ≤ 255) (z0 : 0 ≤ z) (z1 : z ≤ 255) (u0 : 0 ≤ u) (u1 : u ≤ 255)
    (hl : 4 ≤ len) (hb : b < w.heap.size) :
    Calls Ybad.prog 9 #[.agg #[], .slice (some ⟨b, off, none⟩) len cap] w fun e w' => e = .returned (.int .u32 (x * 16777216 + y * 65536 + z * 256 + u)) ∧ ∃ n, w' = (w.alloc (.cells #[] 42)).drewN n := by
  have hne : b ≠ w.heap.size := by omega
  have hl0 : (0 : Int) < (len : Int) := by omega
  have hl1 : (1 : Int) < (len : Int) := by omega
  have hl2 : (2 : Int) < (len : Int) := by omega
  have hl3 : (3 : Int) < (len : Int) := by omega
  go_enter Ybad.func9, Ybad.ntmps9
  go_wp2
  go_quiet (fail)
  go_wp2
  go_ret
  refine ⟨?_, _, rfl⟩
  rw [← or32 x y z u x0 x1 y0 y1 z0 z1 u0 u1]
  rfl
end Go.Proofs.YbulkcdqaDoor
