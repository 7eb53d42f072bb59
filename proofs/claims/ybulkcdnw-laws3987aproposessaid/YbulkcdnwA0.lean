/-
  Rows of identities and members; the law's own comparisons.
-/
import Derived.Test.YbulkcdnwMem
import Derived.Deep.LoopGhost
import Derived.BigQuiet
import Derived.Deep.QuietTactic
import Derived.Deep.RegionHeld3
import Derived.Deep.Cut
import Derived.Deep.CutRange
import Derived.OwnWalk
import Derived.Laws.AppendOwn
namespace Go.Proofs.Ybulkcdnw
open Go.RowKit
set_option maxRecDepth 100000
set_option linter.unusedSimpArgs false
set_option linter.unusedVariables false

theorem Kept.drewN {p : Nat → Prop} {a w : World} (h : Kept p a w) (n : Nat) : Kept p a (w.drewN n) := ⟨h.os, h.tape, h.output, h.size, h.block⟩
/-- A fact kept from the walk's rewriting. -/
structure Shy (p : Prop) : Prop where
  out : p

/-- The cells of identities. -/
def idCells (l : List (ByteArray × Int)) : List Value := l.flatMap fun p => [.string p.1, .int .u64 p.2]
theorem idCells_length (l : List (ByteArray × Int)) : (idCells l).length = l.length * 2 := by
  induction l with
  | nil => rfl
  | cons a l ih => simp only [idCells, List.flatMap_cons, List.length_append, List.length_cons, List.length_nil] at ih ⊢; omega
def id0 : ByteArray × Int := (⟨#[]⟩, 0)
theorem idCells_at : ∀ (l : List (ByteArray × Int)) (k : Nat), k < l.length → (idCells l)[k * 2]? = some (.string (l.getD k id0).1) ∧ (idCells l)[k * 2 + 1]? = some (.int .u64 (l.getD k id0).2)
  | a :: l, 0, _ => ⟨rfl, rfl⟩
  | a :: l, k + 1, h => by
    have := idCells_at l k (by simpa using h)
    rw [show (k + 1) * 2 = k * 2 + 2 from by omega]
    exact this
theorem idCells_snoc (l : List (ByteArray × Int)) (a : ByteArray × Int) : idCells (l ++ [a]) = idCells l ++ [.string a.1, .int .u64 a.2] := by simp [idCells]

/-- v is a row of these identities. -/
def OwnI (w : World) (v : Value) (l : List (ByteArray × Int)) : Prop := w.ownsRow 0 33 2 v l.length (idCells l)
/-- v is a row of these members. -/
def OwnM (w : World) (v : Value) (l : List Mem) : Prop := w.ownsRow 0 35 4 v l.length (memCells l)

theorem own_kept {w w' : World} {p : Nat → Prop} {base : Nat} {e : TypeId} {s : Nat} {v : Value} {n : Nat} {xs : List Value} (h : w.ownsRow base e s v n xs) (k : Kept p w w')
    (hp : ∀ b c, base ≤ b → w.heap[b]? = some (.cells c e (0, 0)) → p b) : w'.ownsRow base e s v n xs := by
  refine ⟨h.1, ?_⟩
  rcases h.2 with hn | ⟨g, cap, cur, hv, hb, hg, rest⟩
  · exact .inl hn
  · exact .inr ⟨g, cap, cur, hv, hb, (k.block g (Array.getElem?_eq_some_iff.1 hg).1 (hp g cur hb hg)).trans hg, rest⟩
theorem own_base {w : World} {base base' : Nat} {e : TypeId} {s : Nat} {v : Value} {n : Nat} {xs : List Value} (h : w.ownsRow base e s v n xs) (hb : base' ≤ base) : w.ownsRow base' e s v n xs := by
  refine ⟨h.1, ?_⟩
  rcases h.2 with hn | ⟨g, cap, cur, hv, hg, rest⟩
  · exact .inl hn
  · exact .inr ⟨g, cap, cur, hv, by omega, rest⟩
theorem OwnI.kept {w w' : World} {v : Value} {l : List (ByteArray × Int)} (h : OwnI w v l) (k : Kept (fun _ => True) w w') : OwnI w' v l := own_kept h k (fun _ _ _ _ => trivial)
theorem OwnM.kept {w w' : World} {v : Value} {l : List Mem} (h : OwnM w v l) (k : Kept (fun _ => True) w w') : OwnM w' v l := own_kept h k (fun _ _ _ _ => trivial)

theorem own_shape {w : World} {e : TypeId} {s : Nat} {v : Value} {n : Nat} {xs : List Value} (h : w.ownsRow 0 e s v n xs) :
    ∃ ao cap, v = .slice ao n cap ∧ (0 < n → ∃ b, ao = some ⟨b, 0, none⟩ ∧ b < w.heap.size ∧ ∀ j u, xs[j]? = some u → w.cell? ⟨b, j, none⟩ = some u) := by
  rcases h.2 with ⟨rfl, rfl⟩ | ⟨g, cap, cur, rfl, hb, hg, _, _, _, ht⟩
  · exact ⟨none, 0, rfl, fun h => absurd h (Nat.lt_irrefl _)⟩
  · refine ⟨_, _, rfl, fun _ => ⟨g, rfl, (Array.getElem?_eq_some_iff.1 hg).1, fun j u hu => ?_⟩⟩
    rw [(show Blk w g e cur from hg).cell, ← Array.getElem?_toList]
    rw [← ht] at hu
    have hlt := (List.getElem?_eq_some_iff.1 hu).1
    rw [List.getElem?_take_of_lt (by simp at hlt; omega)] at hu
    exact hu

theorem OwnI.at {w : World} {b : Nat} {l : List (ByteArray × Int)} (h : ∀ j u, (idCells l)[j]? = some u → w.cell? ⟨b, j, none⟩ = some u) {k : Nat} (hk : k < l.length) :
    w.cell? ⟨b, k * 2, none⟩ = some (.string (l.getD k id0).1) ∧ w.cell? ⟨b, k * 2 + 1, none⟩ = some (.int .u64 (l.getD k id0).2) :=
  ⟨h _ _ (idCells_at l k hk).1, h _ _ (idCells_at l k hk).2⟩
theorem OwnM.at {w : World} {b : Nat} {l : List Mem} (h : ∀ j u, (memCells l)[j]? = some u → w.cell? ⟨b, j, none⟩ = some u) {k : Nat} (hk : k < l.length) :
    w.cell? ⟨b, k * 4, none⟩ = some (.string (l.getD k mem0).nm) ∧ w.cell? ⟨b, k * 4 + 1, none⟩ = some (.int .u64 (l.getD k mem0).inc) ∧ w.cell? ⟨b, k * 4 + 1 + 1, none⟩ = some (.string (l.getD k mem0).ad) ∧ w.cell? ⟨b, k * 4 + 1 + 1 + 1, none⟩ = some (.string (l.getD k mem0).tk) :=
  ⟨h _ _ (memCells_at l k 0 hk (by decide)), h _ _ (memCells_at l k 1 hk (by decide)), h _ _ (memCells_at l k 2 hk (by decide)), h _ _ (memCells_at l k 3 hk (by decide))⟩

set_option maxHeartbeats 1000000 in
theorem ids_any (l : List (ByteArray × Int)) (va vb : Value) (w : World) (ha : OwnI w va l) (hb : OwnI w vb l) (hl : l.length ≤ 1000) :
    Calls Yba.prog 12 #[va, vb] w fun e w' => e = .returned (.bool true) ∧ Kept (fun _ => True) w w' := by
  obtain ⟨aa, ca, rfl, ga⟩ := own_shape ha
  obtain ⟨ab, cb, rfl, gb⟩ := own_shape hb
  have HA := Shy.mk ga
  have HB := Shy.mk gb
  clear ha hb ga gb
  have hq := run_neq33
  go_enter Yba.func12, Yba.ntmps12
  go_wp2
  go_loopw [13] (fun i wr => ∃ k m : Nat, k ≤ l.length ∧ i = .int .i64 k ∧ wr = w.drewN m) (fun i _ => l.length - (intOf i).toNat)
  case atStart => exact ⟨0, 0, Nat.zero_le _, rfl, rfl⟩
  case round =>
    obtain ⟨k, m, hk, rfl, rfl⟩ := hrel
    by_cases hlt : k < l.length
    · obtain ⟨b1, rfl, hb1, h1⟩ := HA.out (by omega)
      obtain ⟨b2, rfl, hb2, h2⟩ := HB.out (by omega)
      obtain ⟨c1, c2⟩ := OwnI.at h1 hlt
      obtain ⟨d1, d2⟩ := OwnI.at h2 hlt
      clear h1 h2
      go_wp2
      go_quiet (fail)
      go_wp2
      go_roundw
      case rel => exact ⟨k + 1, _, by omega, by go_num, rfl⟩
      case measure => simp [intOf]; omega
    · go_wp2
      go_ret
      exact ⟨rfl, (Kept.refl _ _).drewN _⟩

theorem run_neq35 (a b c d : ByteArray) (x : Int) (w : World) : (binOp .neq 35 (.agg #[.string a, .int .u64 x, .string b, .string c]) (.agg #[.string a, .int .u64 x, .string b, .string c])).run Yba.prog w = .ok (.bool false) w := by
  simp [go_sem, Yba.underlying35, Yba.underlying33, Yba.underlying9, Yba.underlying22]

set_option maxHeartbeats 1000000 in
theorem eq_any (ms : List Mem) (l : List (ByteArray × Int)) (va vb ra rb : Value) (w : World) (ha : OwnM w va ms) (hb : OwnM w vb ms) (hra : OwnI w ra l) (hrb : OwnI w rb l) (hm : ms.length ≤ 1000) (hl : l.length ≤ 1000) :
    Calls Yba.prog 9 #[.agg #[va, ra], .agg #[vb, rb]] w fun e w' => e = .returned (.bool true) ∧ Kept (fun _ => True) w w' := by
  obtain ⟨aa, ca, rfl, ga⟩ := own_shape ha
  obtain ⟨ab, cb, rfl, gb⟩ := own_shape hb
  obtain ⟨ac, cc, rfl, gc⟩ := own_shape hra
  obtain ⟨ad, cd, rfl, gd⟩ := own_shape hrb
  have HA := Shy.mk ga
  have HB := Shy.mk gb
  have HRA := Shy.mk hra
  have HRB := Shy.mk hrb
  clear ha hb ga gb hra hrb gc gd
  have hq := run_neq35
  go_enter Yba.func9, Yba.ntmps9
  go_wp2
  go_loopw [16] (fun i wr => ∃ k m : Nat, k ≤ ms.length ∧ i = .int .i64 k ∧ wr = ((w.alloc (.cells #[.slice aa ms.length ca, .slice ac l.length cc] 39)).alloc (.cells #[.slice ab ms.length cb, .slice ad l.length cd] 39)).drewN m) (fun i _ => ms.length - (intOf i).toNat)
  case atStart => exact ⟨0, 0, Nat.zero_le _, rfl, rfl⟩
  case round =>
    obtain ⟨k, m, hk, rfl, rfl⟩ := hrel
    by_cases hlt : k < ms.length
    · obtain ⟨b1, rfl, hb1, h1⟩ := HA.out (by omega)
      obtain ⟨b2, rfl, hb2, h2⟩ := HB.out (by omega)
      obtain ⟨c1, c2, c3, c4⟩ := OwnM.at h1 hlt
      obtain ⟨d1, d2, d3, d4⟩ := OwnM.at h2 hlt
      have e1 : b1 ≠ w.heap.size := by omega
      have e2 : b1 ≠ w.heap.size + 1 := by omega
      have e3 : b2 ≠ w.heap.size := by omega
      have e4 : b2 ≠ w.heap.size + 1 := by omega
      clear h1 h2
      go_wp2
      go_quiet (fail)
      go_wp2
      go_roundw
      case rel => exact ⟨k + 1, _, by omega, by go_num, rfl⟩
      case measure => simp [intOf]; omega
    · have HK : Shy (Kept (fun _ => True) w (((w.alloc (.cells #[.slice aa ms.length ca, .slice ac l.length cc] 39)).alloc (.cells #[.slice ab ms.length cb, .slice ad l.length cd] 39)).drewN m)) := ⟨(((Kept.refl _ _).alloc _).alloc _).drewN _⟩
      go_wp2_with (go_at_call 12; refine (ids_any l _ _ _ (HRA.out.kept HK.out) (HRB.out.kept HK.out) hl).mono ?_; rintro e w1 ⟨rfl, hk1⟩; have HK1 := Shy.mk (HK.out.trans hk1); clear hk1)
      go_ret
      exact ⟨rfl, HK1.out⟩
end Go.Proofs.Ybulkcdnw
