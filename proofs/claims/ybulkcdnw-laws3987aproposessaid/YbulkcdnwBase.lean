/-
  Small notions for this program's walks: a block known whole; blocks that are kept but for some.
-/
import Derived.Test.YbulkcdnwRows
import Derived.WalkKit
import Derived.WalkSpells
import Derived.Deep.AppendLies
import Derived.Laws.StructEq
namespace Go.Proofs.Ybulkcdnw
open Go.RowKit

/-- w' has all blocks of w for which p holds, as they were; streams as they were; no block has gone. -/
structure Kept (p : Nat → Prop) (w w' : World) : Prop where
  os : w'.os = w.os
  tape : w'.tape = w.tape
  output : w'.output = w.output
  size : w.heap.size ≤ w'.heap.size
  block : ∀ k, k < w.heap.size → p k → w'.heap[k]? = w.heap[k]?

theorem Kept.refl (p : Nat → Prop) (w : World) : Kept p w w := ⟨rfl, rfl, rfl, Nat.le_refl _, fun _ _ _ => rfl⟩
theorem Kept.trans {p : Nat → Prop} {a b c : World} (h : Kept p a b) (k : Kept p b c) : Kept p a c :=
  ⟨k.os.trans h.os, k.tape.trans h.tape, k.output.trans h.output, Nat.le_trans h.size k.size, fun i hi hp => (k.block i (Nat.lt_of_lt_of_le hi h.size) hp).trans (h.block i hi hp)⟩
theorem Kept.mono {p q : Nat → Prop} {w w' : World} (h : Kept p w w') (hq : ∀ k, k < w.heap.size → q k → p k) : Kept q w w' := ⟨h.os, h.tape, h.output, h.size, fun k hk hqk => h.block k hk (hq k hk hqk)⟩
theorem Kept.drew {p : Nat → Prop} {a w : World} (h : Kept p a w) : Kept p a w.drew := ⟨h.os, h.tape, h.output, h.size, h.block⟩
theorem Kept.alloc {p : Nat → Prop} {a w : World} (h : Kept p a w) (o : Obj) : Kept p a (w.alloc o) :=
  h.trans ⟨rfl, rfl, rfl, by simp, fun k hk _ => Below.heap_alloc _ _ _ hk⟩
theorem Kept.setCell {p : Nat → Prop} {a w : World} (h : Kept p a w) {q : Addr} (hq : ¬ p q.block) (u : Value) : Kept p a (w.setCell q u) :=
  h.trans ⟨rfl, rfl, rfl, by simp [World.setCell], fun k _ hk => Below.heap_setCell _ _ _ _ (fun e => hq (e ▸ hk))⟩
theorem Kept.setNew {p : Nat → Prop} {a w : World} (h : Kept p a w) {q : Addr} (hq : a.heap.size ≤ q.block) (u : Value) : Kept p a (w.setCell q u) :=
  ⟨h.os, h.tape, h.output, by simpa [World.setCell] using h.size, fun k hk hp => by rw [Below.heap_setCell _ _ _ _ (by omega)]; exact h.block k hk hp⟩
theorem Kept.grown {p : Nat → Prop} {a w w' : World} {row : Option Nat} (h : Kept p a w) (hg : w.grownBy w' row) (hr : ∀ k, row = some k → k < a.heap.size → ¬ p k) : Kept p a w' :=
  ⟨hg.os.trans h.os, hg.tape.trans h.tape, hg.output.trans h.output, Nat.le_trans h.size hg.size, fun k hk hp => (hg.block k (Nat.lt_of_lt_of_le hk h.size) (fun e => hr k e.symm hk hp)).trans (h.block k hk hp)⟩
theorem Kept.below {B : Nat} {p : Nat → Prop} {w w' : World} (h : Kept p w w') (hB : B ≤ w.heap.size) (hp : ∀ k, k < B → p k) : Below B w w' :=
  ⟨h.os, h.tape, h.output, h.size, fun k hk => h.block k (by omega) (hp k hk)⟩

/-- A block known whole, of cells, none frozen. -/
def Blk (w : World) (b : Nat) (t : TypeId) (N : Array Value) : Prop := w.heap[b]? = some (.cells N t (0, 0))

theorem Blk.cell {w : World} {b : Nat} {t : TypeId} {N : Array Value} (h : Blk w b t N) (o : Nat) : w.cell? ⟨b, o, none⟩ = N[o]? := by
  rw [World.cell?]; simp [show w.heap[b]? = _ from h]
theorem Blk.frozen {w : World} {b : Nat} {t : TypeId} {N : Array Value} (h : Blk w b t N) (o : Nat) : w.frozen? ⟨b, o, none⟩ = false := by
  rw [World.frozen?]; simp [show w.heap[b]? = _ from h]
theorem Blk.lt {w : World} {b : Nat} {t : TypeId} {N : Array Value} (h : Blk w b t N) : b < w.heap.size := by
  obtain ⟨hlt, _⟩ := Array.getElem?_eq_some_iff.1 (show w.heap[b]? = _ from h)
  exact hlt
theorem Blk.alloc {w : World} {b : Nat} {t : TypeId} {N : Array Value} (h : Blk w b t N) (o : Obj) : Blk (w.alloc o) b t N := (Below.heap_alloc _ _ _ h.lt).trans h
theorem Blk.drew {w : World} {b : Nat} {t : TypeId} {N : Array Value} (h : Blk w b t N) : Blk w.drew b t N := h
theorem Blk.set {w : World} {b : Nat} {t : TypeId} {N : Array Value} (h : Blk w b t N) (o : Nat) (v : Value) : Blk (w.setCell ⟨b, o, none⟩ v) b t (N.setIfInBounds o v) := by
  show (w.setCell ⟨b, o, none⟩ v).heap[b]? = _
  simp [World.setCell, Array.getElem?_modify, show w.heap[b]? = _ from h]
theorem Blk.setOther {w : World} {b : Nat} {t : TypeId} {N : Array Value} (h : Blk w b t N) {a : Addr} (ha : b ≠ a.block) (v : Value) : Blk (w.setCell a v) b t N := (Below.heap_setCell _ _ _ _ ha).trans h
theorem Blk.kept {w w' : World} {p : Nat → Prop} {b : Nat} {t : TypeId} {N : Array Value} (h : Blk w b t N) (k : Kept p w w') (hp : p b) : Blk w' b t N := (k.block b h.lt hp).trans h
theorem Blk.new (w : World) (t : TypeId) (N : Array Value) : Blk (w.alloc (.cells N t)) w.heap.size t N := heap_alloc_new w _
theorem Blk.grown {w w' : World} {row : Option Nat} {b : Nat} {t : TypeId} {N : Array Value} (h : Blk w b t N) (k : w.grownBy w' row) (hp : row ≠ some b) : Blk w' b t N := (k.block b h.lt (fun e => hp e.symm)).trans h

/-- The block of an owned row has the row's element type. -/
theorem own_type {w : World} {base : Nat} {e : TypeId} {size : Nat} {v : Value} {n : Nat} {xs : List Value} (h : w.ownsRow base e size v n xs) {k : Nat} (hk : v.ownBlock = some k) : base ≤ k ∧ ∃ c, w.heap[k]? = some (.cells c e (0, 0)) := by
  rcases h.2 with ⟨rfl, _⟩ | ⟨g, cap, cur, rfl, hb, hg, _⟩
  · simp [Value.ownBlock] at hk
  · have : g = k := by simpa [Value.ownBlock] using hk
    subst this
    exact ⟨hb, cur, hg⟩
theorem own_apart {w : World} {base : Nat} {e t : TypeId} {size : Nat} {v : Value} {n b : Nat} {xs : List Value} {N : Array Value} (h : w.ownsRow base e size v n xs) (hb : Blk w b t N) (hne : e ≠ t) : v.ownBlock ≠ some b := by
  intro hk
  obtain ⟨_, c, hc⟩ := own_type h hk
  rw [show w.heap[b]? = _ from hb] at hc
  simp at hc
  exact hne hc.2.symm

set_option maxRecDepth 100000 in
/-- 'a != b' on two IDs. -/
theorem run_neq33 (a b : ByteArray) (x y : Int) (w : World) : (binOp .neq 33 (.agg #[.string a, .int .u64 x]) (.agg #[.string b, .int .u64 y])).run Yba.prog w = .ok (.bool (!(a.toList == b.toList && x == y))) w := by
  by_cases h1 : a.toList = b.toList <;> by_cases h2 : x = y <;> simp [go_sem, Yba.underlying33, Yba.underlying9, Yba.underlying22, h1, h2]
set_option maxRecDepth 100000 in
theorem run_eql33 (a b : ByteArray) (x y : Int) (w : World) : (binOp .eql 33 (.agg #[.string a, .int .u64 x]) (.agg #[.string b, .int .u64 y])).run Yba.prog w = .ok (.bool (a.toList == b.toList && x == y)) w := by
  by_cases h1 : a.toList = b.toList <;> by_cases h2 : x = y <;> simp [go_sem, Yba.underlying33, Yba.underlying9, Yba.underlying22, h1, h2]
end Go.Proofs.Ybulkcdnw
