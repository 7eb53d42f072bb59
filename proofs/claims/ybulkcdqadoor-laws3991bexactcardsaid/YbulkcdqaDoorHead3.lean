/-
  (*inflater).header by its contract: the ways with a dictionary.
-/
import Derived.Test.YbulkcdqaDoorHead2
namespace Go.Proofs.YbulkcdqaDoor
open Go.RowKit
set_option maxRecDepth 100000
set_option linter.unusedSimpArgs false
set_option linter.unusedVariables false

theorem Kept.cellN {d : Nat} {w w' : World} (h : Kept (fun k => k ≠ d) w w') {b o : Nat} (hb : b < w.heap.size) (hn : b ≠ d) : w'.cell? ⟨b, o, none⟩ = w.cell? ⟨b, o, none⟩ := by
  rw [World.cell?, World.cell?]
  simp only [h.block b hb hn]

set_option maxHeartbeats 1000000 in
theorem header_dict (d b off len cap : Nat) (x y : Int) (N : Array Value) (w : World) (hN : Blk w d 31 N) (h0 : N[0]? = some (.slice (some ⟨b, off, none⟩) len cap)) (p1 : Value) (h1 : N[1]? = some p1) (hdg : 4 ≤ d) (hl : 2 ≤ len) (hlm : len ≤ 10000)
    (hx : w.cell? ⟨b, off, none⟩ = some (.int .u8 x)) (hy : w.cell? ⟨b, off + 1, none⟩ = some (.int .u8 y)) (x0 : 0 ≤ x) (x1 : x ≤ 255) (y0 : 0 ≤ y) (y1 : y ≤ 255)
    (hb : b < w.heap.size) (hg : 4 ≤ w.heap.size) (hu : unsound x y = false) (hd : (bits BinOp.and IntKind.u8 y 32 != 0) = true) (hl6 : 6 ≤ len) (hcap : len ≤ cap) (hcm : cap ≤ 9223372036854775807) (z2 z3 z4 z5 : Int) (c2 : w.cell? ⟨b, off + 2, none⟩ = some (.int .u8 z2)) (c3 : w.cell? ⟨b, off + 3, none⟩ = some (.int .u8 z3)) (c4 : w.cell? ⟨b, off + 4, none⟩ = some (.int .u8 z4)) (c5 : w.cell? ⟨b, off + 5, none⟩ = some (.int .u8 z5)) (a2 : 0 ≤ z2 ∧ z2 ≤ 255) (a3 : 0 ≤ z3 ∧ z3 ≤ 255) (a4 : 0 ≤ z4 ∧ z4 ≤ 255) (a5 : 0 ≤ z5 ∧ z5 ≤ 255) (e2 : Value) (g2 : w.cell? ⟨2, 0, none⟩ = some e2) (hbd : b ≠ d) (hs : (z2 * 16777216 + z3 * 65536 + z4 * 256 + z5 != 1) = true) :
    Calls Ybad.prog 5 #[.pointer (some ⟨d, 0, none⟩)] w fun e w' => e = .returned e2 ∧ Blk w' d 31 (N.setIfInBounds 1 (.int .i64 2)) ∧ Kept (fun k => k ≠ d) w w' := by
  have hl' : (2 : Int) ≤ (len : Int) := by omega
  have hl1 : (1 : Int) < (len : Int) := by omega
  have hl0 : (0 : Int) < (len : Int) := by omega
  have hdl := hN.lt
  have hl6' : (6 : Int) ≤ (len : Int) := by omega
  have hd0 : d ≠ 0 := by omega
  have hd0' : (0 : Nat) ≠ d := by omega
  obtain ⟨ha2, hb8, hc4⟩ := sound_of x0 y0 hu
  have ha3 : (bits BinOp.and IntKind.u8 x 15 != 8) = false := by simp [ha2]
  have hb9 : decide (7 < x / 16) = false := by simpa using hb8
  have hc5 : ((x * 256 + y).tmod 31 != 0) = false := by simp [hc4]
  clear ha2 hb8 hc4
  have hc : w.cell? ⟨d, 0, none⟩ = some (.slice (some ⟨b, off, none⟩) len cap) := (hN.cell 0).trans h0
  have HN0 : Hid (N[0]? = some (.slice (some ⟨b, off, none⟩) len cap)) := ⟨h0⟩
  have HN : Hid (Blk w d 31 N ∧ N[1]? = some p1) := ⟨hN, h1⟩
  clear hN hu h0 h1
  go_enter Ybad.func5, Ybad.ntmps5
  go_wp2
  go_quiet (fail)
  go_wp2
  go_region_held3 (fun w' => w'.cell? ⟨d, 0, none⟩ = some (.slice (some ⟨b, off, none⟩) len cap)) (simp [go_sem, *])
    ((go_at_call 8; refine (u16_kept b off len cap x y _ ?_ ?_ x0 x1 y0 y1 hl ?_).mono ?_; (· simp [go_sem, *]); (· simp [go_sem, *]); (· simp [go_sem]; omega); rintro e w1 ⟨rfl, hk1⟩; have q1 : w1.cell? ⟨d, 0, none⟩ = some (.slice (some ⟨b, off, none⟩) len cap) := (hk1.cellT (by simpa using hdl)).trans (by simpa using hc); have HK1 : Hid (Kept (fun _ => True) w w1) := ⟨⟨hk1.os, hk1.tape, hk1.output, hk1.size, hk1.block⟩⟩; clear hk1))
  have hN1 := HN.out.1.kept HK1.out trivial
  have q3 := (hN1.cell 1).trans HN.out.2
  have q4 := hN1.frozen 1
  clear hN1
  go_wp2
  have HB2 : Hid (Blk (w1.setCell ⟨d, 1, none⟩ (.int .i64 2)) d 31 (N.setIfInBounds 1 (.int .i64 2))) := ⟨(HN.out.1.kept HK1.out trivial).set 1 _⟩
  have HK2 : Hid (Kept (fun k => k ≠ d) w (w1.setCell ⟨d, 1, none⟩ (.int .i64 2))) := ⟨(Kept.mono HK1.out (fun _ _ _ => trivial)).setCell (q := ⟨d, 1, none⟩) (by simp) _⟩
  clear q1 q3 q4 HK1
  generalize w1.setCell ⟨d, 1, none⟩ (.int .i64 2) = W2 at HB2 HK2 ⊢
  have r0 : W2.cell? ⟨d, 0, none⟩ = some (.slice (some ⟨b, off, none⟩) len cap) := by rw [HB2.out.cell, Array.getElem?_setIfInBounds, if_neg (by decide)]; exact HN0.out
  have k2 := (HK2.out.cellN (o := off + 2) hb hbd).trans c2
  have k3 := (HK2.out.cellN (o := off + 3) hb hbd).trans c3
  have k4 := (HK2.out.cellN (o := off + 4) hb hbd).trans c4
  have k5 := (HK2.out.cellN (o := off + 5) hb hbd).trans c5
  have r2 := (HK2.out.cellN (b := 2) (o := 0) (by omega) (by omega)).trans g2
  have hz2 := HK2.out.size
  have hz3 := HB2.out.lt
  have hc2 : ¬ cap = 2 := by omega
  go_region_held3 (fun w' => w'.cell? ⟨d, 0, none⟩ = some (.slice (some ⟨b, off, none⟩) len cap)) (simp [go_sem, *])
    ((first
      | (go_at_call 9; refine (u32_kept b (off + 2) (len - 2) (cap - 2) z2 z3 z4 z5 _ ?_ ?_ ?_ ?_ a2.1 a2.2 a3.1 a3.2 a4.1 a4.2 a5.1 a5.2 (by omega) ?_).mono ?_; (· exact k2); (· exact k3); (· exact k4); (· exact k5); (· simp [go_sem]; omega); rintro e w3 ⟨rfl, hk3⟩; have t1 : w3.cell? ⟨d, 0, none⟩ = some (.slice (some ⟨b, off, none⟩) len cap) := (hk3.cellT (by simpa using hz3)).trans (by simpa using r0); have t2 : w3.cell? ⟨2, 0, none⟩ = some e2 := (hk3.cellT (by simp; omega)).trans (by simpa using r2); have HK3 : Hid (Kept (fun _ => True) W2 w3) := ⟨⟨hk3.os, hk3.tape, hk3.output, hk3.size, hk3.block⟩⟩; clear hk3)
      | (go_at_call 10; refine (sum_nil _).mono ?_; rintro e w' ⟨rfl, rfl⟩)))
  go_wp2
  go_ret
  have K := HK2.out.trans (HK3.out.mono (fun _ _ _ => trivial))
  exact ⟨rfl, HB2.out.kept HK3.out trivial, ⟨K.os, K.tape, K.output, K.size, K.block⟩⟩

set_option maxHeartbeats 1000000 in
theorem header_empty (d b off len cap : Nat) (x y : Int) (N : Array Value) (w : World) (hN : Blk w d 31 N) (h0 : N[0]? = some (.slice (some ⟨b, off, none⟩) len cap)) (p1 : Value) (h1 : N[1]? = some p1) (hdg : 4 ≤ d) (hl : 2 ≤ len) (hlm : len ≤ 10000)
    (hx : w.cell? ⟨b, off, none⟩ = some (.int .u8 x)) (hy : w.cell? ⟨b, off + 1, none⟩ = some (.int .u8 y)) (x0 : 0 ≤ x) (x1 : x ≤ 255) (y0 : 0 ≤ y) (y1 : y ≤ 255)
    (hb : b < w.heap.size) (hg : 4 ≤ w.heap.size) (hu : unsound x y = false) (hd : (bits BinOp.and IntKind.u8 y 32 != 0) = true) (hl6 : 6 ≤ len) (hcap : len ≤ cap) (hcm : cap ≤ 9223372036854775807) (z2 z3 z4 z5 : Int) (c2 : w.cell? ⟨b, off + 2, none⟩ = some (.int .u8 z2)) (c3 : w.cell? ⟨b, off + 3, none⟩ = some (.int .u8 z3)) (c4 : w.cell? ⟨b, off + 4, none⟩ = some (.int .u8 z4)) (c5 : w.cell? ⟨b, off + 5, none⟩ = some (.int .u8 z5)) (a2 : 0 ≤ z2 ∧ z2 ≤ 255) (a3 : 0 ≤ z3 ∧ z3 ≤ 255) (a4 : 0 ≤ z4 ∧ z4 ≤ 255) (a5 : 0 ≤ z5 ∧ z5 ≤ 255) (e2 : Value) (g2 : w.cell? ⟨2, 0, none⟩ = some e2) (hbd : b ≠ d) (hs : (z2 * 16777216 + z3 * 65536 + z4 * 256 + z5 != 1) = false) :
    Calls Ybad.prog 5 #[.pointer (some ⟨d, 0, none⟩)] w fun e w' => e = .returned .nilIface ∧ Blk w' d 31 (N.setIfInBounds 1 (.int .i64 6)) ∧ Kept (fun k => k ≠ d) w w' := by
  have hl' : (2 : Int) ≤ (len : Int) := by omega
  have hl1 : (1 : Int) < (len : Int) := by omega
  have hl0 : (0 : Int) < (len : Int) := by omega
  have hdl := hN.lt
  have hl6' : (6 : Int) ≤ (len : Int) := by omega
  have hd0 : d ≠ 0 := by omega
  have hd0' : (0 : Nat) ≠ d := by omega
  obtain ⟨ha2, hb8, hc4⟩ := sound_of x0 y0 hu
  have ha3 : (bits BinOp.and IntKind.u8 x 15 != 8) = false := by simp [ha2]
  have hb9 : decide (7 < x / 16) = false := by simpa using hb8
  have hc5 : ((x * 256 + y).tmod 31 != 0) = false := by simp [hc4]
  clear ha2 hb8 hc4
  have hc : w.cell? ⟨d, 0, none⟩ = some (.slice (some ⟨b, off, none⟩) len cap) := (hN.cell 0).trans h0
  have HN0 : Hid (N[0]? = some (.slice (some ⟨b, off, none⟩) len cap)) := ⟨h0⟩
  have HN : Hid (Blk w d 31 N ∧ N[1]? = some p1) := ⟨hN, h1⟩
  clear hN hu h0 h1
  go_enter Ybad.func5, Ybad.ntmps5
  go_wp2
  go_quiet (fail)
  go_wp2
  go_region_held3 (fun w' => w'.cell? ⟨d, 0, none⟩ = some (.slice (some ⟨b, off, none⟩) len cap)) (simp [go_sem, *])
    ((go_at_call 8; refine (u16_kept b off len cap x y _ ?_ ?_ x0 x1 y0 y1 hl ?_).mono ?_; (· simp [go_sem, *]); (· simp [go_sem, *]); (· simp [go_sem]; omega); rintro e w1 ⟨rfl, hk1⟩; have q1 : w1.cell? ⟨d, 0, none⟩ = some (.slice (some ⟨b, off, none⟩) len cap) := (hk1.cellT (by simpa using hdl)).trans (by simpa using hc); have HK1 : Hid (Kept (fun _ => True) w w1) := ⟨⟨hk1.os, hk1.tape, hk1.output, hk1.size, hk1.block⟩⟩; clear hk1))
  have hN1 := HN.out.1.kept HK1.out trivial
  have q3 := (hN1.cell 1).trans HN.out.2
  have q4 := hN1.frozen 1
  clear hN1
  go_wp2
  have HB2 : Hid (Blk (w1.setCell ⟨d, 1, none⟩ (.int .i64 2)) d 31 (N.setIfInBounds 1 (.int .i64 2))) := ⟨(HN.out.1.kept HK1.out trivial).set 1 _⟩
  have HK2 : Hid (Kept (fun k => k ≠ d) w (w1.setCell ⟨d, 1, none⟩ (.int .i64 2))) := ⟨(Kept.mono HK1.out (fun _ _ _ => trivial)).setCell (q := ⟨d, 1, none⟩) (by simp) _⟩
  clear q1 q3 q4 HK1
  generalize w1.setCell ⟨d, 1, none⟩ (.int .i64 2) = W2 at HB2 HK2 ⊢
  have r0 : W2.cell? ⟨d, 0, none⟩ = some (.slice (some ⟨b, off, none⟩) len cap) := by rw [HB2.out.cell, Array.getElem?_setIfInBounds, if_neg (by decide)]; exact HN0.out
  have k2 := (HK2.out.cellN (o := off + 2) hb hbd).trans c2
  have k3 := (HK2.out.cellN (o := off + 3) hb hbd).trans c3
  have k4 := (HK2.out.cellN (o := off + 4) hb hbd).trans c4
  have k5 := (HK2.out.cellN (o := off + 5) hb hbd).trans c5
  have r2 := (HK2.out.cellN (b := 2) (o := 0) (by omega) (by omega)).trans g2
  have hz2 := HK2.out.size
  have hz3 := HB2.out.lt
  have hc2 : ¬ cap = 2 := by omega
  go_region_held3 (fun w' => w'.cell? ⟨d, 0, none⟩ = some (.slice (some ⟨b, off, none⟩) len cap)) (simp [go_sem, *])
    ((first
      | (go_at_call 9; refine (u32_kept b (off + 2) (len - 2) (cap - 2) z2 z3 z4 z5 _ ?_ ?_ ?_ ?_ a2.1 a2.2 a3.1 a3.2 a4.1 a4.2 a5.1 a5.2 (by omega) ?_).mono ?_; (· exact k2); (· exact k3); (· exact k4); (· exact k5); (· simp [go_sem]; omega); rintro e w3 ⟨rfl, hk3⟩; have t1 : w3.cell? ⟨d, 0, none⟩ = some (.slice (some ⟨b, off, none⟩) len cap) := (hk3.cellT (by simpa using hz3)).trans (by simpa using r0); have t2 : w3.cell? ⟨2, 0, none⟩ = some e2 := (hk3.cellT (by simp; omega)).trans (by simpa using r2); have HK3 : Hid (Kept (fun _ => True) W2 w3) := ⟨⟨hk3.os, hk3.tape, hk3.output, hk3.size, hk3.block⟩⟩; clear hk3)
      | (go_at_call 10; refine (sum_nil _).mono ?_; rintro e w' ⟨rfl, rfl⟩)))
  have HB3 : Hid (Blk w3 d 31 (N.setIfInBounds 1 (.int .i64 2))) := ⟨HB2.out.kept HK3.out trivial⟩
  have v1 : w3.cell? ⟨d, 1, none⟩ = some (.int .i64 2) := by
    rw [HB3.out.cell, Array.getElem?_setIfInBounds, if_pos rfl]
    have := HN.out.2
    rw [if_pos (by obtain ⟨h, _⟩ := Array.getElem?_eq_some_iff.1 this; exact h)]
  have v2 := HB3.out.frozen 1
  go_wp2
  go_ret
  have K := HK2.out.trans (HK3.out.mono (fun _ _ _ => trivial))
  have hB := HB3.out.set 1 (.int .i64 6)
  rw [Array.setIfInBounds_setIfInBounds] at hB
  have K2 := K.setCell (q := ⟨d, 1, none⟩) (by simp) (.int .i64 6)
  exact ⟨rfl, hB, ⟨K2.os, K2.tape, K2.output, K2.size, K2.block⟩⟩
end Go.Proofs.YbulkcdqaDoor
