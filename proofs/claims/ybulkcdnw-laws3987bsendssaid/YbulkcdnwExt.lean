/-
  A world with new blocks and draws, written out: the class for a region that draws its order, reads, and calls what only makes memory: one walk of the text's order.
-/
import Derived.Test.YbulkcdnwBase
import Derived.Deep.QuietTactic
import Derived.BigQuiet
import Derived.Deep.MidRow
namespace Go.Proofs.Ybulkcdnw
open Go.RowKit

/-- New blocks and draws. -/
structure Ext where
  os : List Obj := []
  n : Nat := 0
theorem Ext.some : Nonempty Ext := ⟨{}⟩
/-- w with new blocks and draws. -/
def ext (w : World) (x : Ext) : World := (x.os.foldl World.alloc w).drewN x.n

theorem foldl_alloc_kept (os : List Obj) : ∀ {a w : World}, Kept (fun _ => True) a w → Kept (fun _ => True) a (os.foldl World.alloc w) := by
  induction os with
  | nil => exact fun h => h
  | cons o os ih => exact fun h => ih (h.alloc o)
theorem ext_kept (w : World) (x : Ext) : Kept (fun _ => True) w (ext w x) := by
  have h := foldl_alloc_kept x.os (Kept.refl (fun _ => True) w)
  exact ⟨h.os, h.tape, h.output, h.size, h.block⟩
theorem ext_cell (w : World) (x : Ext) (b o : Nat) (hb : b < w.heap.size) : (ext w x).cell? ⟨b, o, none⟩ = w.cell? ⟨b, o, none⟩ :=
  World.cell?_of_block (w := w) ((ext_kept w x).block b hb trivial)
theorem ext_alloc (w : World) (x : Ext) (o : Obj) : (ext w x).alloc o = ext w ⟨x.os ++ [o], x.n⟩ := by
  unfold ext
  rw [List.foldl_append]
  rfl

theorem wp_region_ext {P : Program} {id : Nat} {Q : Exit → Act → World → Prop} {a : Act} {w : World} {l : List Oper} (hm : P.follows .mixedOrders = true) (hB : Region.lexB .any l.toArray = true)
    (h : wpQuiet P l.toArray (fun w' => ∃ x, w' = ext w x) (fun a' => ∀ w', (∃ x, w' = ext w x) → Q .normal a' w') l a) : (Code.region id l.toArray true).wp P Q a w :=
  wp_region_quiet (C := fun w' => ∃ x, w' = ext w x) hm hB ⟨⟨[], 1⟩, rfl⟩ (by simpa using h)

/-- A load of a long struct, in the quiet walk: by its range, not cell by cell. -/
theorem quiet_load_mid {P : Program} {C : World → Prop} {o : Oper} {a : Act} {K : Act → Prop} (ty : TypeId) (x : Operand) (ho : o.op = .load ty x) (b off : Nat) (hx : a.eval x = .pointer (some ⟨b, off, none⟩))
    (cs : List Value) (d : TypeDesc) (hc : ∀ w, C w → w.rangeAt b off cs) (hu : P.underlying ty = some d) (hd : d.isRow = true) (hi : (P.info? ty).map (·.size) = some cs.length)
    (hk : K (a.put o.dst (.agg cs.toArray))) : o.quiet P a C K := by
  refine ⟨.agg cs.toArray, fun w hw => ?_, hk⟩
  unfold Oper.quietAt execOp
  simp only [ho, hx, Instr.loadAt, Instr.sureAddr, Sem.run_bind, Sem.run_pure, Result.andThen_ok, run_loadVar_mid w b off ty cs d (hc w hw) hu hd hi]
  exact ⟨rfl, rfl⟩
theorem ext_range {w : World} {b o : Nat} {cs : List Value} (hb : b < w.heap.size) (h : w.rangeAt b o cs) (x : Ext) : (ext w x).rangeAt b o cs := fun j v hv => by
  rw [ext_cell w x b _ hb]
  exact h j v hv

set_option maxRecDepth 100000 in
theorem run_eql35_same (a c d : ByteArray) (x : Int) (w : World) : (binOp .eql 35 (.agg #[.string a, .int .u64 x, .string c, .string d]) (.agg #[.string a, .int .u64 x, .string c, .string d])).run Yba.prog w = .ok (.bool true) w := by
  simp [go_sem, Yba.underlying35, Yba.underlying33, Yba.underlying9, Yba.underlying22]
end Go.Proofs.Ybulkcdnw
