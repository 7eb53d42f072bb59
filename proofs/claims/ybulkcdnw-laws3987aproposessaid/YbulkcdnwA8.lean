/-
  time.Time: Add to the zero time, Equal.
-/
import Derived.Test.YbulkcdnwA2
import Derived.Laws.Bits64b
import Derived.Laws.Rows
namespace Go.Proofs.Ybulkcdnw
open Go.RowKit
set_option maxRecDepth 100000
set_option linter.unusedSimpArgs false
set_option linter.unusedVariables false

theorem and_mono (x : Int) (x0 : 0 ≤ x) (x1 : x < 1073741824) : bits .and .u64 x 9223372036854775808 = 0 := by
  obtain ⟨a, rfl⟩ := Int.eq_ofNat_of_zero_le x0
  have h := bits_and_u64_nat a 9223372036854775808 (by omega) (by decide)
  have e : a &&& 9223372036854775808 = 0 := by
    apply Nat.eq_of_testBit_eq
    intro i
    rw [Nat.testBit_and, show (9223372036854775808 : Nat) = 2 ^ 63 from by decide, Nat.testBit_two_pow, Nat.zero_testBit]
    by_cases hi : 63 = i
    · subst hi
      rw [Nat.testBit_lt_two_pow (Nat.lt_of_lt_of_le (show a < 2 ^ 30 by omega) (by decide))]
      rfl
    · simp [hi]
  rw [e] at h
  exact h
theorem or_zero (x : Int) (x0 : 0 ≤ x) (x1 : x < 1073741824) : bits .or .u64 0 x = x := by
  obtain ⟨a, rfl⟩ := Int.eq_ofNat_of_zero_le x0
  have h := bits_or_u64_nat 0 a (by decide) (by omega)
  rw [Nat.zero_or] at h
  exact h
theorem andnot_zero : bits .andNot .u64 0 1073741823 = 0 := by decide

set_option maxHeartbeats 1000000 in
theorem addSec_any (T : Nat) (x k : Int) (p : Value) (w : World) (hB : Blk w T 49 #[.int .u64 x, .int .i64 0, p]) (hx : bits .and .u64 x 9223372036854775808 = 0) (k0 : -9223372036854775808 ≤ k) (k1 : k ≤ 9223372036854775807) :
    Calls Yba.prog 25 #[.pointer (some ⟨T, 0, none⟩), .int .i64 k] w fun e w' => e = .returned (.tuple #[]) ∧ Blk w' T 49 #[.int .u64 x, .int .i64 k, p] ∧ Kept (fun j => j ≠ T) w w' := by
  have c0 : w.cell? ⟨T, 0, none⟩ = some (.int .u64 x) := hB.cell 0
  have c1 : w.cell? ⟨T, 1, none⟩ = some (.int .i64 0) := hB.cell 1
  have f1 := hB.frozen 1
  have HB := Shy.mk hB
  clear hB
  by_cases hk : 0 < k
  · go_enter Yba.func25, Yba.ntmps25
    go_wp2
    go_end0
    exact ⟨rfl, HB.out.set 1 _, (Kept.refl _ _).setCell (q := ⟨T, 1, none⟩) (by simp) _⟩
  · go_enter Yba.func25, Yba.ntmps25
    go_wp2
    go_end0
    exact ⟨rfl, HB.out.set 1 _, (Kept.refl _ _).setCell (q := ⟨T, 1, none⟩) (by simp) _⟩

def nsF (x : Int) : Int := wrap32 (bits .and .u64 x 1073741823)
set_option maxHeartbeats 1000000 in
theorem nsec_any (T : Nat) (x : Int) (w : World) (c0 : w.cell? ⟨T, 0, none⟩ = some (.int .u64 x)) :
    Calls Yba.prog 24 #[.pointer (some ⟨T, 0, none⟩)] w fun e w' => e = .returned (.int .i32 (nsF x)) ∧ w = w' := by
  go_enter Yba.func24, Yba.ntmps24
  go_wp2
  go_ret
  exact ⟨rfl, rfl⟩
theorem nsF0 : nsF 0 = 0 := by decide +kernel
set_option maxHeartbeats 1000000 in
theorem sec_any (T : Nat) (x y : Int) (w : World) (c0 : w.cell? ⟨T, 0, none⟩ = some (.int .u64 x)) (c1 : w.cell? ⟨T, 1, none⟩ = some (.int .i64 y)) (hx : bits .and .u64 x 9223372036854775808 = 0) :
    Calls Yba.prog 23 #[.pointer (some ⟨T, 0, none⟩)] w fun e w' => e = .returned (.int .i64 y) ∧ w = w' := by
  go_enter Yba.func23, Yba.ntmps23
  go_wp2
  go_ret
  exact ⟨rfl, rfl⟩

/-- The time that d nanoseconds make of the zero time. -/
def tval (d : Int) : Array Value := #[.int .u64 (d % 1000000000), .int .i64 (d / 1000000000), .pointer none]

/-- The time under way and the result's cell. -/
def AddR (w wx : World) (a b : Int) : Prop := Blk wx w.heap.size 49 #[.int .u64 a, .int .i64 b, .pointer none] ∧ Blk wx (w.heap.size + 1) 49 #[.int .u64 0, .int .i64 0, .pointer none] ∧ Kept (fun _ => True) w wx
theorem addR0 (w : World) (a : Int) : AddR w ((w.alloc (.cells #[.int .u64 a, .int .i64 0, .pointer none] 49)).alloc (.cells #[.int .u64 0, .int .i64 0, .pointer none] 49)) a 0 := by
  have h1 := (Blk.new w 49 #[.int .u64 a, .int .i64 0, .pointer none]).alloc (.cells #[.int .u64 0, .int .i64 0, .pointer none] 49)
  have h2 : Blk ((w.alloc (.cells #[.int .u64 a, .int .i64 0, .pointer none] 49)).alloc (.cells #[.int .u64 0, .int .i64 0, .pointer none] 49)) (w.heap.size + 1) 49 #[.int .u64 0, .int .i64 0, .pointer none] := by
    have := Blk.new (w.alloc (.cells #[.int .u64 a, .int .i64 0, .pointer none] 49)) 49 #[.int .u64 0, .int .i64 0, .pointer none]
    simpa using this
  exact ⟨h1, h2, ((Kept.refl (fun _ => True) w).alloc _).alloc _⟩
theorem AddR.next {w w3 w4 : World} {a b c : Int} (h : AddR w w3 a b) (hb : Blk w4 w.heap.size 49 #[.int .u64 a, .int .i64 c, .pointer none]) (k : Kept (fun j => j ≠ w.heap.size) w3 w4) : AddR w w4 a c := by
  refine ⟨hb, h.2.1.kept k (by show w.heap.size + 1 ≠ w.heap.size; omega), ?_⟩
  have K := h.2.2
  exact ⟨k.os.trans K.os, k.tape.trans K.tape, k.output.trans K.output, Nat.le_trans K.size k.size, fun j hj _ => (k.block j (Nat.lt_of_lt_of_le hj K.size) (by show j ≠ _; omega)).trans (K.block j hj trivial)⟩
theorem AddR.ret {w w4 : World} {a b : Int} (h : AddR w w4 a b) :
    Blk (((w4.setCell ⟨w.heap.size + 1, 0, none⟩ (.int .u64 a)).setCell ⟨w.heap.size + 1, 1, none⟩ (.int .i64 b)).setCell ⟨w.heap.size + 1, 2, none⟩ (.pointer none)) (w.heap.size + 1) 49 #[.int .u64 a, .int .i64 b, .pointer none] ∧
      Kept (fun _ => True) w (((w4.setCell ⟨w.heap.size + 1, 0, none⟩ (.int .u64 a)).setCell ⟨w.heap.size + 1, 1, none⟩ (.int .i64 b)).setCell ⟨w.heap.size + 1, 2, none⟩ (.pointer none)) :=
  ⟨((h.2.1.set 0 _).set 1 _).set 2 _, ((h.2.2.setNew (q := ⟨w.heap.size + 1, 0, none⟩) (by show w.heap.size ≤ w.heap.size + 1; omega) _).setNew (q := ⟨w.heap.size + 1, 1, none⟩) (by show w.heap.size ≤ w.heap.size + 1; omega) _).setNew (q := ⟨w.heap.size + 1, 2, none⟩) (by show w.heap.size ≤ w.heap.size + 1; omega) _⟩

set_option maxHeartbeats 2000000 in
theorem add_any (d : Int) (w : World) (d0 : -9223372036854775808 ≤ d) (d1 : d ≤ 9223372036854775807) :
    Calls Yba.prog 11 #[.agg #[.int .u64 0, .int .i64 0, .pointer none], .int .i64 d] w fun e w' => e = .returned (.agg (tval d)) ∧ Kept (fun _ => True) w w' := by
  have hq := Int.mul_tdiv_add_tmod d 1000000000
  have hq2 := Int.mul_ediv_add_emod d 1000000000
  have hr1 : d.tmod 1000000000 < 1000000000 := Int.tmod_lt_of_pos _ (by decide)
  have hr2 : -1000000000 < d.tmod 1000000000 := by
    have := Int.tmod_lt_of_pos (-d) (show (0 : Int) < 1000000000 by decide)
    rw [Int.neg_tmod] at this
    omega
  obtain ⟨q, hqd⟩ : ∃ q, d.tdiv 1000000000 = q := ⟨_, rfl⟩
  obtain ⟨r, hrd⟩ : ∃ r, d.tmod 1000000000 = r := ⟨_, rfl⟩
  rw [hqd, hrd] at hq
  rw [hrd] at hr1 hr2
  have HQ := Shy.mk (And.intro hq hq2)
  clear hq hq2
  have q0 : -9223372037 ≤ q := by have := HQ.out.1; omega
  have q1 : q ≤ 9223372037 := by have := HQ.out.1; omega
  by_cases hr : r < 0
  · go_enter Yba.func11, Yba.ntmps11
    go_upto_region 9 with (go_at_call 24; refine (nsec_any w.heap.size 0 _ (by simp [go_sem])).mono ?_; rintro e w1 ⟨rfl, rfl⟩; rw [nsF0])
    have an := andnot_zero
    have orz := or_zero (r + 1000000000) (by omega) (by omega)
    have e1 : d % 1000000000 = r + 1000000000 := by have := HQ.out; omega
    have e2 : d / 1000000000 = q - 1 := by have := HQ.out; omega
    have HE := Shy.mk (And.intro e1 e2)
    clear e1 e2
    go_cut [] from 27 to 33 (fun wx => Shy (AddR w wx (r + 1000000000) 0))
    case first =>
      go_wp2
      go_meet
      exact ⟨addR0 w (r + 1000000000)⟩
    case rest =>
    obtain ⟨w3, hw3⟩ : ∃ w3, w3 = wc := ⟨_, rfl⟩
    subst hw3
    have HC := Shy.mk (addSec_any w.heap.size (r + 1000000000) (q - 1) _ w3 hcut.out.1 (and_mono _ (by omega) (by omega)) (by omega) (by omega))
    have am := and_mono (r + 1000000000) (by omega) (by omega)
    go_upto_region 11 with (go_at_call 25; refine HC.out.mono ?_; rintro e w4 ⟨rfl, b4, k4⟩; have H4 : Shy (AddR w w4 (r + 1000000000) (q - 1)) := ⟨hcut.out.next b4 k4⟩; clear b4 k4)
    have t0 : w4.cell? ⟨w.heap.size, 0, none⟩ = some (.int .u64 (r + 1000000000)) := H4.out.1.cell 0
    have t1 : w4.cell? ⟨w.heap.size, 1, none⟩ = some (.int .i64 (q - 1)) := H4.out.1.cell 1
    have t2 : w4.cell? ⟨w.heap.size, 2, none⟩ = some (.pointer none) := H4.out.1.cell 2
    have u0 : w4.cell? ⟨w.heap.size + 1, 0, none⟩ = some (.int .u64 0) := H4.out.2.1.cell 0
    have u1 : w4.cell? ⟨w.heap.size + 1, 1, none⟩ = some (.int .i64 0) := H4.out.2.1.cell 1
    have u2 : w4.cell? ⟨w.heap.size + 1, 2, none⟩ = some (.pointer none) := H4.out.2.1.cell 2
    have f0 := H4.out.2.1.frozen 0
    have f1 := H4.out.2.1.frozen 1
    have f2 := H4.out.2.1.frozen 2
    go_wp2
    have HF := H4.out.ret
    (try simp only [Exit.inBlock, Exit.then])
    refine bodyPost_ret (results_cell_row rfl _ _ (w.heap.size + 1) 49 _ _ _ rfl HF.1 Yba.underlying49 rfl (by kernel_rfl)) rfl ?_
    exact ⟨by rw [tval, HE.out.1, HE.out.2], HF.2⟩
  · go_enter Yba.func11, Yba.ntmps11
    go_upto_region 9 with (go_at_call 24; refine (nsec_any w.heap.size 0 _ (by simp [go_sem])).mono ?_; rintro e w1 ⟨rfl, rfl⟩; rw [nsF0])
    have an := andnot_zero
    have orz := or_zero (r) (by omega) (by omega)
    have e1 : d % 1000000000 = r := by have := HQ.out; omega
    have e2 : d / 1000000000 = q := by have := HQ.out; omega
    have HE := Shy.mk (And.intro e1 e2)
    clear e1 e2
    go_cut [] from 27 to 33 (fun wx => Shy (AddR w wx (r) 0))
    case first =>
      go_wp2
      go_meet
      exact ⟨addR0 w (r)⟩
    case rest =>
    obtain ⟨w3, hw3⟩ : ∃ w3, w3 = wc := ⟨_, rfl⟩
    subst hw3
    have HC := Shy.mk (addSec_any w.heap.size (r) (q) _ w3 hcut.out.1 (and_mono _ (by omega) (by omega)) (by omega) (by omega))
    have am := and_mono (r) (by omega) (by omega)
    go_upto_region 11 with (go_at_call 25; refine HC.out.mono ?_; rintro e w4 ⟨rfl, b4, k4⟩; have H4 : Shy (AddR w w4 (r) (q)) := ⟨hcut.out.next b4 k4⟩; clear b4 k4)
    have t0 : w4.cell? ⟨w.heap.size, 0, none⟩ = some (.int .u64 (r)) := H4.out.1.cell 0
    have t1 : w4.cell? ⟨w.heap.size, 1, none⟩ = some (.int .i64 (q)) := H4.out.1.cell 1
    have t2 : w4.cell? ⟨w.heap.size, 2, none⟩ = some (.pointer none) := H4.out.1.cell 2
    have u0 : w4.cell? ⟨w.heap.size + 1, 0, none⟩ = some (.int .u64 0) := H4.out.2.1.cell 0
    have u1 : w4.cell? ⟨w.heap.size + 1, 1, none⟩ = some (.int .i64 0) := H4.out.2.1.cell 1
    have u2 : w4.cell? ⟨w.heap.size + 1, 2, none⟩ = some (.pointer none) := H4.out.2.1.cell 2
    have f0 := H4.out.2.1.frozen 0
    have f1 := H4.out.2.1.frozen 1
    have f2 := H4.out.2.1.frozen 2
    go_wp2
    have HF := H4.out.ret
    (try simp only [Exit.inBlock, Exit.then])
    refine bodyPost_ret (results_cell_row rfl _ _ (w.heap.size + 1) 49 _ _ _ rfl HF.1 Yba.underlying49 rfl (by kernel_rfl)) rfl ?_
    exact ⟨by rw [tval, HE.out.1, HE.out.2], HF.2⟩

set_option maxHeartbeats 2000000 in
theorem equal_any (d : Int) (w : World) :
    Calls Yba.prog 10 #[.agg (tval d), .agg (tval d)] w fun e w' => e = .returned (.bool true) ∧ Kept (fun _ => True) w w' := by
  obtain ⟨x, hx⟩ : ∃ x, d % 1000000000 = x := ⟨_, rfl⟩
  obtain ⟨y, hy⟩ : ∃ y, d / 1000000000 = y := ⟨_, rfl⟩
  have am := and_mono x (by omega) (by omega)
  have axx : bits .and .u64 x x = x := by
    obtain ⟨a, ha⟩ := Int.eq_ofNat_of_zero_le (show 0 ≤ x by omega)
    subst ha
    have h := bits_and_u64_nat a a (by omega) (by omega)
    rw [Nat.and_self] at h
    exact h
  unfold tval
  rw [hx, hy]
  clear hx hy
  have b0 : Blk ((w.alloc (.cells #[.int .u64 x, .int .i64 y, .pointer none] 49)).alloc (.cells #[.int .u64 x, .int .i64 y, .pointer none] 49)) w.heap.size 49 #[.int .u64 x, .int .i64 y, .pointer none] := (Blk.new w 49 _).alloc _
  have b1 : Blk ((w.alloc (.cells #[.int .u64 x, .int .i64 y, .pointer none] 49)).alloc (.cells #[.int .u64 x, .int .i64 y, .pointer none] 49)) (w.heap.size + 1) 49 #[.int .u64 x, .int .i64 y, .pointer none] := by
    have := Blk.new (w.alloc (.cells #[.int .u64 x, .int .i64 y, .pointer none] 49)) 49 #[.int .u64 x, .int .i64 y, .pointer none]
    simpa using this
  have HB := Shy.mk (And.intro b0 b1)
  clear b0 b1
  go_enter Yba.func10, Yba.ntmps10
  go_wp2_with (go_at_call_of 23 (Value.pointer (some (⟨w.heap.size, 0, none⟩ : Addr))); refine (sec_any w.heap.size x y _ (HB.out.1.cell 0) (HB.out.1.cell 1) am).mono ?_; rintro e w1 ⟨rfl, rfl⟩)
  refine (sec_any (w.heap.size + 1) x y _ (HB.out.2.cell 0) (HB.out.2.cell 1) am).mono ?_
  rintro e w1 ⟨rfl, rfl⟩
  go_wp2_with (go_at_call_of 24 (Value.pointer (some (⟨w.heap.size, 0, none⟩ : Addr))); refine (nsec_any w.heap.size x _ (HB.out.1.cell 0)).mono ?_; rintro e w1 ⟨rfl, rfl⟩)
  refine (nsec_any (w.heap.size + 1) x _ (HB.out.2.cell 0)).mono ?_
  rintro e w1 ⟨rfl, rfl⟩
  go_wp2
  go_ret
  exact ⟨rfl, ((Kept.refl _ _).alloc _).alloc _⟩
end Go.Proofs.Ybulkcdnw
