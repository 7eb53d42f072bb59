/-
  The walk of the law Exact: a nil input.
-/
import Derived.Test.YbulkcdqaDoorBoth
import Derived.OwnWalk
import Derived.Laws.CopyOwn
import Derived.LaidEql
import Derived.Laws.Cover3
namespace Go.Proofs.YbulkcdqaDoor
open Go.RowKit
set_option maxRecDepth 100000
set_option linter.unusedSimpArgs false
set_option linter.unusedVariables false
theorem Ybad.comp48 : (Ybad.prog.info? 48).map (·.comparable) = some true := by kernel_rfl
theorem Ybad.size67 : (Ybad.prog.info? 67).map (·.size) = some 1 := by kernel_rfl

theorem Ybad.eql22 (a : Option Addr) (l c : Nat) (w : World) : (binOp .eql 22 (.slice a l c) (.slice none 0 0)).run Ybad.prog w = .ok (.bool a.isNone) w := by
  simp only [binOp]
  simp [run_equal_slice_nil w 22 5 a l c Ybad.underlying22]
attribute [local go_sem] Ybad.eql22

/-- What the three sentinels hold. -/
structure Sent (w : World) (a0 a1 a2 : Addr) : Prop where
  c0 : w.cell? ⟨0, 0, none⟩ = some (.iface 48 (.pointer (some a0)))
  c1 : w.cell? ⟨1, 0, none⟩ = some (.iface 48 (.pointer (some a1)))
  c2 : w.cell? ⟨2, 0, none⟩ = some (.iface 48 (.pointer (some a2)))
  n01 : a0 ≠ a1
  n02 : a0 ≠ a2
  n12 : a1 ≠ a2
  b0 : ∃ c t, w.heap[a0.block]? = some (.cells c t (0, 0))
  b1 : ∃ c t, w.heap[a1.block]? = some (.cells c t (0, 0))
  b2 : ∃ c t, w.heap[a2.block]? = some (.cells c t (0, 0))

theorem lt_of_some {w : World} {b : Nat} {o : Obj} (h : w.heap[b]? = some o) : b < w.heap.size := (Array.getElem?_eq_some_iff.1 h).1

theorem Sent.later {w w' : World} {a0 a1 a2 : Addr} (h : Sent w a0 a1 a2) (hb : Below w.heap.size w w') : Sent w' a0 a1 a2 := by
  obtain ⟨c0, c1, c2, n01, n02, n12, ⟨x0, t0, b0⟩, ⟨x1, t1, b1⟩, ⟨x2, t2, b2⟩⟩ := h
  exact ⟨cell_later hb c0, cell_later hb c1, cell_later hb c2, n01, n02, n12, ⟨x0, t0, (hb.block _ (lt_of_some b0)).trans b0⟩, ⟨x1, t1, (hb.block _ (lt_of_some b1)).trans b1⟩, ⟨x2, t2, (hb.block _ (lt_of_some b2)).trans b2⟩⟩
theorem Sent.size {w : World} {a0 a1 a2 : Addr} (h : Sent w a0 a1 a2) : 3 ≤ w.heap.size := World.block_lt_of_cell? _ _ h.c2

theorem eql_same (w : World) (a : Addr) : (binOp .eql 33 (.iface 48 (.pointer (some a))) (.iface 48 (.pointer (some a)))).run Ybad.prog w = .ok (.bool true) w := by
  obtain ⟨i, hi, hcmp⟩ := Option.map_eq_some_iff.1 Ybad.comp48
  obtain ⟨j, hj, hjs⟩ := Option.map_eq_some_iff.1 Ybad.size67
  exact run_eql_iface_ptr_same w a Ybad.underlying33 Ybad.underlying48 hi hcmp hj
theorem eql_other (w : World) {a b : Addr} (hne : a ≠ b) (ha : ∃ c t, w.heap[a.block]? = some (.cells c t (0, 0))) (hb : ∃ c t, w.heap[b.block]? = some (.cells c t (0, 0))) : (binOp .eql 33 (.iface 48 (.pointer (some a))) (.iface 48 (.pointer (some b)))).run Ybad.prog w = .ok (.bool false) w := by
  obtain ⟨i, hi, hcmp⟩ := Option.map_eq_some_iff.1 Ybad.comp48
  obtain ⟨j, hj, hjs⟩ := Option.map_eq_some_iff.1 Ybad.size67
  obtain ⟨ca, ta, ha⟩ := ha
  obtain ⟨cb, tb, hb⟩ := hb
  exact run_eql_iface_ptr_other w Ybad.underlying33 Ybad.underlying48 hi hcmp hj (by rw [hjs]; decide) hne ha hb

theorem headN (w : World) (p : Int) (a0 a1 a2 : Addr) (hs : Sent w a0 a1 a2) :
    Calls Ybad.prog 5 #[.pointer (some ⟨w.heap.size, 0, none⟩)] (w.alloc (.cells (inflC (.slice none 0 0) (.int .i64 p)) 31)) fun e w' =>
      e = .returned (.iface 48 (.pointer (some a0))) ∧ Blk w' w.heap.size 31 (inflC (.slice none 0 0) (.int .i64 p)) ∧ Hid (Below w.heap.size w w') := by
  have hN := Blk.new w 31 (inflC (.slice none 0 0) (.int .i64 p))
  have hB := (Below.refl w.heap.size w).alloc (Nat.le_refl _) (.cells (inflC (.slice none 0 0) (.int .i64 p)) 31)
  refine (header_short w.heap.size 0 0 none _ _ ((hN.cell 0).trans (inflC_at _ _ 0 (by decide))) (by decide) (hs.later hB).c0).mono ?_
  rintro e w' ⟨rfl, rfl⟩
  exact ⟨rfl, hN, ⟨hB⟩⟩

set_option maxHeartbeats 4000000 in
theorem exact_nil (p fl : Int) (w : World) (hf : 0 ≤ fl ∧ fl ≤ 255) (a0 a1 a2 : Addr) (hs : Sent w a0 a1 a2) :
    Calls Ybad.prog 3 #[.slice none 0 0, .int .i64 p, .int .u8 fl] w fun e w' => e = .returned (.bool true) ∧ Below w.heap.size w w' := by
  obtain ⟨f0, f1⟩ := hf
  have HC := Hid.mk (headN w p a0 a1 a2 hs)
  have HS := Hid.mk hs
  clear hs
  go_enter Ybad.func3, Ybad.ntmps3
  go_upto_region 8 with fail
  go_cut [38] from 18 to 37 (fun c wx => c = .bool false ∧ w = wx)
  case first =>
    go_wp2
    all_goals go_meet
    all_goals exact ⟨by simp, rfl⟩
  case rest =>
  obtain ⟨rfl, rfl⟩ := hcut
  go_upto_region 29 with (first | (refine wpList_build31b rfl (.tmp 90) (.tmp 91) rfl _ _ _ _ rfl rfl ?_) | (refine wpList_box31 rfl (.tmp 92) rfl _ _ rfl ?_) | (go_at_call 5; refine HC.out.mono ?_; rintro e w1 ⟨rfl, hB1, HB1⟩; have HN1 := Hid.mk hB1; clear hB1) | (go_at_call 6; refine (model_short _ _ _ _ _ (by decide)).mono ?_; rintro e w2 ⟨rfl, hk⟩; have HK2 := Hid.mk hk; clear hk))
  have hB2 : Below w1.heap.size w1 w2 := HK2.out.below (Nat.le_refl _) (fun _ _ => trivial)
  have HS2 : Hid (Sent w2 a0 a1 a2) := ⟨(HS.out.later HB1.out).later hB2⟩
  have HN2 : Hid (Blk w2 w.heap.size 31 (inflC (.slice none 0 0) (.int .i64 p))) := ⟨HN1.out.kept HK2.out trivial⟩
  have HB2 : Hid (Below w.heap.size w w2) := ⟨HB1.out.trans (hB2.mono HB1.out.size)⟩
  clear hB2 HK2 HN1 HB1 HS HC
  have s0 := HS2.out.c0
  have s1 := HS2.out.c1
  have s2 := HS2.out.c2
  have q00 := eql_same w2 a0
  have n0 := (HN2.out.cell 0).trans (inflC_at _ _ 0 (by decide))
  have n1 := (HN2.out.cell 1).trans (inflC_at _ _ 1 (by decide))
  have n2 := (HN2.out.cell 2).trans (inflC_at _ _ 2 (by decide))
  have n3 := (HN2.out.cell 3).trans (inflC_at _ _ 3 (by decide))
  have n4 := (HN2.out.cell 4).trans (inflC_at _ _ 4 (by decide))
  have n5 := (HN2.out.cell 5).trans (inflC_at _ _ 5 (by decide))
  have n6 := (HN2.out.cell 6).trans (inflC_at _ _ 6 (by decide))
  go_wp2_with (go_at_call 7; refine (equal_nil _).mono ?_; rintro e w3 ⟨rfl, rfl⟩)
  go_ret
  exact ⟨rfl, HB2.out⟩
end Go.Proofs.YbulkcdqaDoor
