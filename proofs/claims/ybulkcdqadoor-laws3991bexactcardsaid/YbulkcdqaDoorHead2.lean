/-
  (*inflater).header by its contract: the ways with a dictionary.
-/
import Derived.Test.YbulkcdqaDoorHead
namespace Go.Proofs.YbulkcdqaDoor
open Go.RowKit
set_option maxRecDepth 100000
set_option linter.unusedSimpArgs false
set_option linter.unusedVariables false

set_option maxHeartbeats 1000000 in
theorem header_cut (d b off len cap : Nat) (x y : Int) (N : Array Value) (w : World) (hN : Blk w d 31 N) (h0 : N[0]? = some (.slice (some ⟨b, off, none⟩) len cap)) (p1 : Value) (h1 : N[1]? = some p1) (hdg : 4 ≤ d) (hl : 2 ≤ len) (hlm : len ≤ 10000)
    (hx : w.cell? ⟨b, off, none⟩ = some (.int .u8 x)) (hy : w.cell? ⟨b, off + 1, none⟩ = some (.int .u8 y)) (x0 : 0 ≤ x) (x1 : x ≤ 255) (y0 : 0 ≤ y) (y1 : y ≤ 255)
    (hb : b < w.heap.size) (hg : 4 ≤ w.heap.size) (hu : unsound x y = false) (hd : (bits BinOp.and IntKind.u8 y 32 != 0) = true) (hl6 : len < 6) (e0 : Value) (g0 : w.cell? ⟨0, 0, none⟩ = some e0) :
    Calls Ybad.prog 5 #[.pointer (some ⟨d, 0, none⟩)] w fun e w' => e = .returned e0 ∧ Blk w' d 31 (N.setIfInBounds 1 (.int .i64 2)) ∧ Kept (fun k => k ≠ d) w w' := by
  have hl' : (2 : Int) ≤ (len : Int) := by omega
  have hl1 : (1 : Int) < (len : Int) := by omega
  have hl0 : (0 : Int) < (len : Int) := by omega
  have hdl := hN.lt
  have hl6' : (len : Int) < 6 := by omega
  have hd0 : d ≠ 0 := by omega
  have hd0' : (0 : Nat) ≠ d := by omega
  obtain ⟨ha2, hb8, hc4⟩ := sound_of x0 y0 hu
  have ha3 : (bits BinOp.and IntKind.u8 x 15 != 8) = false := by simp [ha2]
  have hb9 : decide (7 < x / 16) = false := by simpa using hb8
  have hc5 : ((x * 256 + y).tmod 31 != 0) = false := by simp [hc4]
  clear ha2 hb8 hc4
  have hc : w.cell? ⟨d, 0, none⟩ = some (.slice (some ⟨b, off, none⟩) len cap) := (hN.cell 0).trans h0
  have HN : Hid (Blk w d 31 N ∧ N[1]? = some p1) := ⟨hN, h1⟩
  clear hN hu h0 h1
  go_enter Ybad.func5, Ybad.ntmps5
  go_wp2
  go_quiet (fail)
  go_wp2
  go_region_held3 (fun w' => w'.cell? ⟨d, 0, none⟩ = some (.slice (some ⟨b, off, none⟩) len cap)) (simp [go_sem, *])
    ((go_at_call 8; refine (u16_kept b off len cap x y _ ?_ ?_ x0 x1 y0 y1 hl ?_).mono ?_; (· simp [go_sem, *]); (· simp [go_sem, *]); (· simp [go_sem]; omega); rintro e w1 ⟨rfl, hk1⟩; have q1 : w1.cell? ⟨d, 0, none⟩ = some (.slice (some ⟨b, off, none⟩) len cap) := (hk1.cellT (by simpa using hdl)).trans (by simpa using hc); have HK1 : Hid (Kept (fun _ => True) w w1) := ⟨⟨hk1.os, hk1.tape, hk1.output, hk1.size, hk1.block⟩⟩; clear hk1))
  have hN1 := HN.out.1.kept HK1.out trivial
  have q3 := (hN1.cell 1).trans HN.out.2
  have q4 := hN1.frozen 1
  have q5 : w1.cell? ⟨0, 0, none⟩ = some e0 := (HK1.out.cellT (by omega)).trans g0
  clear hN1
  go_wp2
  go_ret
  refine ⟨rfl, (HN.out.1.kept HK1.out trivial).set 1 _, ?_⟩
  exact (Kept.mono HK1.out (fun _ _ _ => trivial)).setCell (q := ⟨d, 1, none⟩) (by simp) _
end Go.Proofs.YbulkcdqaDoor
