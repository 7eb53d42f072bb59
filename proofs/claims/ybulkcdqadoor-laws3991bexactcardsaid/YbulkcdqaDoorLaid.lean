/-
  What the listed variables hold; a world that meets the condition; the input read out of its datum.
-/
import Derived.Test.YbulkcdqaDoorRows
import Derived.WalkKit
import Derived.ProofKit
import Derived.OpenShut
import Derived.ChangeSame
import Derived.ChangeVars
import Derived.JoinedOf
import Derived.RowKitTokens
import Derived.LaidLaws
import Derived.Stop.ErrReads
import Derived.Deep.Slices
namespace Go.Proofs.YbulkcdqaDoor
open Go.ChangeShapes Go.WideShapes Go.ChangeAt Go.RowKit Go.Deep
set_option maxRecDepth 100000

theorem Ybad.own : ownKnob Ybad.prog.godebug = none := by kernel_rfl
theorem Ybad.laidOut : laidOutB Ybad.prog = true := by kernel_rfl
theorem Ybad.cells5 : Ybad.prog.cellsOf 5 = 1 := by kernel_rfl
theorem Ybad.eof : Ybad.prog.globalNamed "io.ErrUnexpectedEOF" = some 0 := by kernel_rfl
theorem Ybad.hdr : Ybad.prog.globalNamed "compress/zlib.ErrHeader" = some 1 := by kernel_rfl
theorem Ybad.dic : Ybad.prog.globalNamed "compress/zlib.ErrDictionary" = some 2 := by kernel_rfl
theorem Ybad.eofType : (Ybad.prog.globals[0]?).map (·.type) = some 33 := by kernel_rfl
theorem Ybad.hdrType : (Ybad.prog.globals[1]?).map (·.type) = some 33 := by kernel_rfl
theorem Ybad.dicType : (Ybad.prog.globals[2]?).map (·.type) = some 33 := by kernel_rfl
theorem Ybad.cells67 : Ybad.prog.cellsOf 67 = 1 := by kernel_rfl
theorem Ybad.cells9 : Ybad.prog.cellsOf 9 = 1 := by kernel_rfl
theorem Ybad.star : "*" ++ "errors.errorString" = "*errors.errorString" := by decide
theorem Ybad.row48 (u : TypeId) (h : Ybad.prog.typeName? 3 u = some "*errors.errorString") : u = 48 :=
  typeName_ptr_named (nm := "errors.errorString") (by rw [Ybad.star]; kernel_rfl) (by kernel_rfl) (by decide) u (by rw [Ybad.star]; exact h)

/-- The listed variables. -/
abbrev laid3 : List (String × DataW Unit) := [("io.ErrUnexpectedEOF", Rows.laid_io_ErrUnexpectedEOF), ("compress/zlib.ErrDictionary", Rows.laid_compress_zlib_ErrDictionary), ("compress/zlib.ErrHeader", Rows.laid_compress_zlib_ErrHeader)]

theorem sentinels_of_laid {W : World} (h : laidMet Ybad.prog laid3 W) :
    ∃ (a0 a1 a2 : Addr) (c0 c1 c2 : Array Value) (t0 t1 t2 : TypeId),
      W.cell? ⟨0, 0, none⟩ = some (.iface 48 (.pointer (some a0))) ∧ W.cell? ⟨1, 0, none⟩ = some (.iface 48 (.pointer (some a1))) ∧ W.cell? ⟨2, 0, none⟩ = some (.iface 48 (.pointer (some a2))) ∧
      a0 ≠ a1 ∧ a0 ≠ a2 ∧ a1 ≠ a2 ∧
      W.heap[a0.block]? = some (.cells c0 t0 (0, 0)) ∧ W.heap[a1.block]? = some (.cells c1 t1 (0, 0)) ∧ W.heap[a2.block]? = some (.cells c2 t2 (0, 0)) := by
  obtain ⟨ps, ⟨g0, t0, cs0, f0, p0, q0, hg0, ht0, hv0, hd0, ⟨g2, t2, cs2, f2, p2, q2, hg2, ht2, hv2, hd2, ⟨g1, t1, cs1, f1, p1, q1, hg1, ht1, hv1, hd1, hq1, e1⟩, e2⟩, e0⟩, hnd, hrows⟩ := h
  obtain rfl := Option.some.inj (Ybad.eof.symm.trans hg0)
  obtain rfl := Option.some.inj (Ybad.dic.symm.trans hg2)
  obtain rfl := Option.some.inj (Ybad.hdr.symm.trans hg1)
  obtain rfl := Option.some.inj (Ybad.eofType.symm.trans ht0)
  obtain rfl := Option.some.inj (Ybad.dicType.symm.trans ht2)
  obtain rfl := Option.some.inj (Ybad.hdrType.symm.trans ht1)
  have hq1' : q1 = [] := hq1
  subst hq1'
  subst e1
  subst e2
  subst e0
  obtain ⟨l0⟩ := cs0
  obtain ⟨l1⟩ := cs1
  obtain ⟨l2⟩ := cs2
  have ok0 : ∀ u v, l0 = [.iface u v] → Value.okWide Ybad.prog W .any 0 u v := fun u v e => by
    subst e
    exact (hrows 0 0 (by simp [MemPlace.row])).2 u v (by simpa using World.var?_cell hg0 hv0 0)
  have ok1 : ∀ u v, l1 = [.iface u v] → Value.okWide Ybad.prog W .any 0 u v := fun u v e => by
    subst e
    exact (hrows 1 0 (by simp [MemPlace.row])).2 u v (by simpa using World.var?_cell hg1 hv1 0)
  have ok2 : ∀ u v, l2 = [.iface u v] → Value.okWide Ybad.prog W .any 0 u v := fun u v e => by
    subst e
    exact (hrows 2 0 (by simp [MemPlace.row])).2 u v (by simpa using World.var?_cell hg2 hv2 0)
  obtain ⟨a0, s0, rfl, hc0, hs0, hz0, rfl⟩ := errorString_of_trod Ybad.underlying33 Ybad.row48 Ybad.underlying48 Ybad.underlying67 rfl rfl Ybad.underlying9 Ybad.cells67 Ybad.cells9 hd0 ok0
  obtain ⟨a1, s1, rfl, hc1, hs1, hz1, rfl⟩ := errorString_of_trod Ybad.underlying33 Ybad.row48 Ybad.underlying48 Ybad.underlying67 rfl rfl Ybad.underlying9 Ybad.cells67 Ybad.cells9 hd1 ok1
  obtain ⟨a2, s2, rfl, hc2, hs2, hz2, rfl⟩ := errorString_of_trod Ybad.underlying33 Ybad.row48 Ybad.underlying48 Ybad.underlying67 rfl rfl Ybad.underlying9 Ybad.cells67 Ybad.cells9 hd2 ok2
  obtain ⟨c0, t0, hb0⟩ := (hrows a0.block a0.off (by simp [MemPlace.row])).1
  obtain ⟨c1, t1, hb1⟩ := (hrows a1.block a1.off (by simp [MemPlace.row])).1
  obtain ⟨c2, t2, hb2⟩ := (hrows a2.block a2.off (by simp [MemPlace.row])).1
  refine ⟨a0, a1, a2, c0, c1, c2, t0, t1, t2, by simpa using World.var?_cell Ybad.eof hv0 0, by simpa using World.var?_cell Ybad.hdr hv1 0, by simpa using World.var?_cell Ybad.dic hv2 0, ?_, ?_, ?_, hb0, hb1, hb2⟩
  · rintro rfl; simp [MemPlace.row] at hnd
  · rintro rfl; simp [MemPlace.row] at hnd
  · rintro rfl; simp [MemPlace.row] at hnd

/-- A world that meets the condition. -/
def low (P : Program) : Nat := (World.holding P default ⟨#[], #[], []⟩).heap.size
def laidWorld (P : Program) (os : Os) : World :=
  let w0 := World.holding P os ⟨#[.cells #[.string { data := #[117, 110, 101, 120, 112, 101, 99, 116, 101, 100, 32, 69, 79, 70] }] 67, .cells #[.string { data := #[122, 108, 105, 98, 58, 32, 105, 110, 118, 97, 108, 105, 100, 32, 104, 101, 97, 100, 101, 114] }] 67, .cells #[.string { data := #[122, 108, 105, 98, 58, 32, 105, 110, 118, 97, 108, 105, 100, 32, 100, 105, 99, 116, 105, 111, 110, 97, 114, 121] }] 67], #[], []⟩
  { w0 with heap := ((w0.heap.modify 0 fun
      | .cells _ t frozen => .cells #[.iface 48 (.pointer (some ⟨low P, 0, none⟩))] t frozen
      | o => o).modify 1 fun
      | .cells _ t frozen => .cells #[.iface 48 (.pointer (some ⟨low P + 1, 0, none⟩))] t frozen
      | o => o).modify 2 fun
      | .cells _ t frozen => .cells #[.iface 48 (.pointer (some ⟨low P + 2, 0, none⟩))] t frozen
      | o => o }
theorem laidWorld_met (os : Os) (args : Array Value) : laidMet Ybad.prog laid3 ((laidWorld Ybad.prog os).forCall (fun _ _ => 0) ⟨#[], args, []⟩).memory :=
  laidMet_of_run (ps := [.cell 0 0, .cell (low Ybad.prog) 0, .cell 2 0, .cell (low Ybad.prog + 2) 0, .cell 1 0, .cell (low Ybad.prog + 1) 0]) 8 (by kernel_rfl) (by kernel_rfl) (by kernel_rfl)

/-- The bytes of an argument. -/
theorem bytes_of {H : Type} {enc : TypeId × Value → H} {W : World} {fuel : Nat} {ao : Option Addr} {len cap : Nat} {x : DataW H × List MemPlace}
    (h : DataW.trod enc Ybad.prog W 0 (fun _ => true) true fuel 22 [.slice ao len cap] = some x) :
    len ≤ maxLen ∧ len ≤ cap ∧ cap ≤ maxLen ∧ ∃ zs : List Int, zs.length = len ∧ (ao = none → zs.length = 0 ∧ cap = 0) ∧ (∀ k, k < zs.length → 0 ≤ zs.getD k 0 ∧ zs.getD k 0 ≤ 255) ∧ ∀ a, ao = some a → ∀ k, k < zs.length → W.cell? (a.add k) = some (.int .u8 (zs.getD k 0)) := by
  rcases open_ints Ybad.underlying22 Ybad.underlying5 Ybad.cells5 h with ⟨hcs, _⟩ | ⟨a, l, c, zs, hcs, _, hl, hm, hz, _, hcell, hwz⟩
  · simp at hcs
    obtain ⟨rfl, rfl, rfl⟩ := hcs
    exact ⟨Nat.zero_le _, Nat.le_refl _, Nat.zero_le _, [], rfl, fun _ => ⟨rfl, rfl⟩, fun k hk => absurd hk (Nat.not_lt_zero _), fun a e => by cases e⟩
  · simp at hcs
    obtain ⟨rfl, rfl, rfl⟩ := hcs
    simp only [if_true] at hz
    have hlen : (zs.take len).length = len := by simp; omega
    have hg : ∀ k, k < len → (zs.take len).getD k 0 = zs[k]?.getD 0 := fun k hk => by
      simp only [List.getD, List.getElem?_take_of_lt hk]
    refine ⟨Nat.le_trans hl hm, hl, hm, zs.take len, hlen, fun e => (by cases e), fun k hk => ?_, fun b e k hk => ?_⟩
    · rw [hlen] at hk
      rw [hg k hk]
      have hb := range_u8 hwz k
      have hx : zs.getD k 0 = zs[k]?.getD 0 := rfl
      omega
    · rw [hlen] at hk
      cases e
      rw [hg k hk]
      exact hcell k (by omega)
end Go.Proofs.YbulkcdqaDoor
