/-
  (*inflater).header by its contract.
-/
import Derived.Test.YbulkcdqaDoorSmall
import Derived.Deep.Cut
import Derived.Deep.CutRange
import Derived.Deep.CutBlock
namespace Go.Proofs.YbulkcdqaDoor
open Go.RowKit
set_option maxRecDepth 100000
set_option linter.unusedSimpArgs false
set_option linter.unusedVariables false

theorem Kept.drewN {p : Nat → Prop} {a w : World} (h : Kept p a w) (n : Nat) : Kept p a (w.drewN n) := ⟨h.os, h.tape, h.output, h.size, h.block⟩

theorem Kept.cellT {w w' : World} (h : Kept (fun _ => True) w w') {b o : Nat} (hb : b < w.heap.size) : w'.cell? ⟨b, o, none⟩ = w.cell? ⟨b, o, none⟩ := by
  rw [World.cell?, World.cell?]
  simp only [h.block b hb trivial]

theorem u16_kept (b off len cap : Nat) (x y : Int) (w : World) (hx : w.cell? ⟨b, off, none⟩ = some (.int .u8 x)) (hy : w.cell? ⟨b, off + 1, none⟩ = some (.int .u8 y)) (x0 : 0 ≤ x) (x1 : x ≤ 255) (y0 : 0 ≤ y) (y1 : y ≤ 255)
    (hl : 2 ≤ len) (hb : b < w.heap.size) :
    Calls Ybad.prog 8 #[.agg #[], .slice (some ⟨b, off, none⟩) len cap] w fun e w' => e = .returned (.int .u16 (x * 256 + y)) ∧ Kept (fun _ => True) w w' := by
  refine (u16_any b off len cap x y w hx hy x0 x1 y0 y1 hl hb).mono ?_
  rintro e w' ⟨rfl, n, rfl⟩
  exact ⟨rfl, ((Kept.refl _ _).alloc _).drewN n⟩

theorem u32_kept (b off len cap : Nat) (x y z u : Int) (w : World) (hx : w.cell? ⟨b, off, none⟩ = some (.int .u8 x)) (hy : w.cell? ⟨b, off + 1, none⟩ = some (.int .u8 y)) (hz : w.cell? ⟨b, off + 2, none⟩ = some (.int .u8 z)) (hu : w.cell? ⟨b, off + 3, none⟩ = some (.int .u8 u))
    (x0 : 0 ≤ x) (x1 : x ≤ 255) (y0 : 0 ≤ y) (y1 : y ≤ 255) (z0 : 0 ≤ z) (z1 : z ≤ 255) (u0 : 0 ≤ u) (u1 : u ≤ 255)
    (hl : 4 ≤ len) (hb : b < w.heap.size) :
    Calls Ybad.prog 9 #[.agg #[], .slice (some ⟨b, off, none⟩) len cap] w fun e w' => e = .returned (.int .u32 (x * 16777216 + y * 65536 + z * 256 + u)) ∧ Kept (fun _ => True) w w' := by
  refine (u32_any b off len cap x y z u w hx hy hz hu x0 x1 y0 y1 z0 z1 u0 u1 hl hb).mono ?_
  rintro e w' ⟨rfl, n, rfl⟩
  exact ⟨rfl, ((Kept.refl _ _).alloc _).drewN n⟩

theorem and15 (x : Int) (x0 : 0 ≤ x) (x1 : x ≤ 255) : bits .and .u8 x 15 = x % 16 := by
  obtain ⟨a, rfl⟩ := Int.eq_ofNat_of_zero_le x0
  have h : ∀ a : Fin 256, bits .and .u8 (a.1 : Int) 15 = (a.1 : Int) % 16 := by decide +kernel
  exact h ⟨a, by omega⟩

/-- Is the header's check unsound? -/
def unsound (x y : Int) : Bool := (bits .and .u8 x 15 != 8) || (decide (7 < x / 16)) || ((x * 256 + y) % 31 != 0)

set_option maxHeartbeats 1000000 in
theorem header_short (d len cap : Nat) (ao : Option Addr) (e0 : Value) (w : World) (hc : w.cell? ⟨d, 0, none⟩ = some (.slice ao len cap)) (hl : len < 2) (h0 : w.cell? ⟨0, 0, none⟩ = some e0) :
    Calls Ybad.prog 5 #[.pointer (some ⟨d, 0, none⟩)] w fun e w' => e = .returned e0 ∧ w = w' := by
  have hl' : (len : Int) < 2 := by omega
  go_enter Ybad.func5, Ybad.ntmps5
  go_wp2
  go_ret
  exact ⟨rfl, rfl⟩

set_option maxHeartbeats 1000000 in
theorem header_bad (d b off len cap : Nat) (x y : Int) (e1 : Value) (w : World) (hc : w.cell? ⟨d, 0, none⟩ = some (.slice (some ⟨b, off, none⟩) len cap)) (hl : 2 ≤ len) (hlm : len ≤ 10000)
    (hx : w.cell? ⟨b, off, none⟩ = some (.int .u8 x)) (hy : w.cell? ⟨b, off + 1, none⟩ = some (.int .u8 y)) (x0 : 0 ≤ x) (x1 : x ≤ 255) (y0 : 0 ≤ y) (y1 : y ≤ 255) (h1 : w.cell? ⟨1, 0, none⟩ = some e1)
    (hb : b < w.heap.size) (hd : d < w.heap.size) (hg : 4 ≤ w.heap.size) (hu : unsound x y = true) :
    Calls Ybad.prog 5 #[.pointer (some ⟨d, 0, none⟩)] w fun e w' => e = .returned e1 ∧ Kept (fun _ => True) w w' := by
  have hl' : (2 : Int) ≤ (len : Int) := by omega
  have hl1 : (1 : Int) < (len : Int) := by omega
  have hl0 : (0 : Int) < (len : Int) := by omega
  have hdn : d ≠ w.heap.size := by omega
  have HU : Hid (unsound x y = true) := ⟨hu⟩
  clear hu
  rcases ha : (bits BinOp.and IntKind.u8 x 15 != 8) with _ | _
  · rcases hb7 : decide (7 < x / 16) with _ | _
    · have hc3 : ((x * 256 + y) % 31 != 0) = true := by
        have := HU.out
        unfold unsound at this
        rw [ha, hb7] at this
        simpa using this
      have hc4 : ((x * 256 + y).tmod 31 != 0) = true := by rw [Int.tmod_eq_emod_of_nonneg (by omega)]; exact hc3
      go_enter Ybad.func5, Ybad.ntmps5
      go_wp2
      go_quiet (fail)
      go_wp2
      go_region_held3 (fun w' => w'.cell? ⟨d, 0, none⟩ = some (.slice (some ⟨b, off, none⟩) len cap)) (simp [go_sem, *])
        ((go_at_call 8; refine (u16_kept b off len cap x y _ ?_ ?_ x0 x1 y0 y1 hl ?_).mono ?_; (· simp [go_sem, *]); (· simp [go_sem, *]); (· simp [go_sem]; omega); rintro e w1 ⟨rfl, hk1⟩; have q1 : w1.cell? ⟨d, 0, none⟩ = some (.slice (some ⟨b, off, none⟩) len cap) := (hk1.cellT (by simpa using hd)).trans (by simpa using hc); have q2 : w1.cell? ⟨1, 0, none⟩ = some e1 := (hk1.cellT (by simp; omega)).trans (by simpa using h1); have HK1 : Hid (Kept (fun _ => True) w w1) := ⟨⟨hk1.os, hk1.tape, hk1.output, hk1.size, hk1.block⟩⟩; clear hk1))
      go_wp2
      go_ret
      refine ⟨rfl, ?_⟩
      exact ⟨HK1.out.os, HK1.out.tape, HK1.out.output, HK1.out.size, HK1.out.block⟩
    · have ha2 : bits BinOp.and IntKind.u8 x 15 = 8 := by simpa using ha
      have hb8 : 7 < x / 16 := by simpa using hb7
      clear ha hb7
      go_enter Ybad.func5, Ybad.ntmps5
      go_wp2
      go_quiet (fail)
      go_wp2
      go_quiet (fail)
      go_wp2
      go_ret
      refine ⟨rfl, ?_⟩
      exact (Kept.refl _ _).drewN _
  · have hm : (x % 16 != 8) = true := by rw [← and15 x x0 x1]; exact ha
    clear ha
    go_enter Ybad.func5, Ybad.ntmps5
    go_wp2
    go_quiet (fail)
    go_wp2
    go_quiet (fail)
    go_wp2
    go_ret
    refine ⟨rfl, ?_⟩
    exact (Kept.refl _ _).drewN _

/-- A sound header: what is known of it. -/
theorem sound_of {x y : Int} (x0 : 0 ≤ x) (y0 : 0 ≤ y) (h : unsound x y = false) : bits BinOp.and IntKind.u8 x 15 = 8 ∧ ¬ 7 < x / 16 ∧ (x * 256 + y).tmod 31 = 0 := by
  unfold unsound at h
  simp at h
  refine ⟨h.1.1, by omega, ?_⟩
  rw [Int.tmod_eq_emod_of_nonneg (by omega)]
  omega

set_option maxHeartbeats 1000000 in
theorem header_plain (d b off len cap : Nat) (x y : Int) (N : Array Value) (w : World) (hN : Blk w d 31 N) (h0 : N[0]? = some (.slice (some ⟨b, off, none⟩) len cap)) (p1 : Value) (h1 : N[1]? = some p1) (hl : 2 ≤ len) (hlm : len ≤ 10000)
    (hx : w.cell? ⟨b, off, none⟩ = some (.int .u8 x)) (hy : w.cell? ⟨b, off + 1, none⟩ = some (.int .u8 y)) (x0 : 0 ≤ x) (x1 : x ≤ 255) (y0 : 0 ≤ y) (y1 : y ≤ 255)
    (hb : b < w.heap.size) (hg : 4 ≤ w.heap.size) (hu : unsound x y = false) (hd : bits BinOp.and IntKind.u8 y 32 = 0) :
    Calls Ybad.prog 5 #[.pointer (some ⟨d, 0, none⟩)] w fun e w' => e = .returned .nilIface ∧ Blk w' d 31 (N.setIfInBounds 1 (.int .i64 2)) ∧ Kept (fun k => k ≠ d) w w' := by
  have hl' : (2 : Int) ≤ (len : Int) := by omega
  have hl1 : (1 : Int) < (len : Int) := by omega
  have hl0 : (0 : Int) < (len : Int) := by omega
  have hdl := hN.lt
  obtain ⟨ha2, hb8, hc4⟩ := sound_of x0 y0 hu
  have ha3 : (bits BinOp.and IntKind.u8 x 15 != 8) = false := by simp [ha2]
  have hb9 : decide (7 < x / 16) = false := by simpa using hb8
  have hc5 : ((x * 256 + y).tmod 31 != 0) = false := by simp [hc4]
  clear ha2 hb8 hc4
  have hc : w.cell? ⟨d, 0, none⟩ = some (.slice (some ⟨b, off, none⟩) len cap) := (hN.cell 0).trans h0
  have HN : Hid (Blk w d 31 N ∧ N[1]? = some p1) := ⟨hN, h1⟩
  clear hN hu h0 h1
  go_enter Ybad.func5, Ybad.ntmps5
  go_wp2
  go_quiet (fail)
  go_wp2
  go_region_held3 (fun w' => w'.cell? ⟨d, 0, none⟩ = some (.slice (some ⟨b, off, none⟩) len cap)) (simp [go_sem, *])
    ((go_at_call 8; refine (u16_kept b off len cap x y _ ?_ ?_ x0 x1 y0 y1 hl ?_).mono ?_; (· simp [go_sem, *]); (· simp [go_sem, *]); (· simp [go_sem]; omega); rintro e w1 ⟨rfl, hk1⟩; have q1 : w1.cell? ⟨d, 0, none⟩ = some (.slice (some ⟨b, off, none⟩) len cap) := (hk1.cellT (by simpa using hdl)).trans (by simpa using hc); have HK1 : Hid (Kept (fun _ => True) w w1) := ⟨⟨hk1.os, hk1.tape, hk1.output, hk1.size, hk1.block⟩⟩; clear hk1))
  have hN1 := HN.out.1.kept HK1.out trivial
  have q3 := (hN1.cell 1).trans HN.out.2
  have q4 := hN1.frozen 1
  clear hN1
  go_wp2
  go_ret
  refine ⟨rfl, (HN.out.1.kept HK1.out trivial).set 1 _, ?_⟩
  exact (Kept.mono HK1.out (fun _ _ _ => trivial)).setCell (q := ⟨d, 1, none⟩) (by simp) _
end Go.Proofs.YbulkcdqaDoor
