/-
  (*Node).propose.
-/
import Derived.Test.YbulkcdnwA10
import Derived.Test.YbulkcdnwA12
import Derived.Test.YbulkcdnwA13
namespace Go.Proofs.Ybulkcdnw
open Go.RowKit
set_option maxRecDepth 100000
set_option linter.unusedSimpArgs false
set_option linter.unusedVariables false
attribute [local go_sem ↓] Go.wp_at_zero Go.wp_at_succ

/-- Behind begin, the round as it stands. -/
structure BF (w wr : World) (base nb mb sb AB RB : Nat) (N M : Array Value) (ms : List Mem) (ks : List (ByteArray × Int)) (nm : ByteArray) (inc : Int) (ad gr : ByteArray) (nx : Int) (va vr : Value) (l : List Mem) (q : List (ByteArray × Int)) (R : Array Value) : Prop where
  ex : ∃ (N1 : Array Value) (sv : Value) (E : List (Mem × Value × Value)), NodeOk wr nb mb sb N1 M ms ks ∧ (∀ j, j ≠ 35 → j ≠ 50 → j ≠ 51 → j ≠ 61 → N1[j]? = N[j]?) ∧ N1[35]? = some (.pointer (some ⟨RB, 0, none⟩)) ∧ N1[61]? = some sv ∧
    E.map (·.1) = tgts nm inc ks l ∧ wr.ownsRow base 83 19 sv E.length (E.flatMap (env3 nm inc ad gr nx w.heap.size)) ∧ (∀ e ∈ E, OwnI wr e.2.1 (susL ks ms) ∧ e.2.2.oneCell' = true)
  mp : Mp wr AB q
  bR : Blk wr RB 51 R
  bU : Blk wr w.heap.size 39 #[va, vr]
  kept : Kept (fun k => k < base ∨ (k ≠ nb ∧ ∀ c, w.heap[k]? ≠ some (.cells c 83 (0, 0)))) w wr
  hab : w.heap.size < AB
  hrb : w.heap.size < RB
section
variable {w wr w' : World} {base nb mb sb AB RB : Nat} {N M R : Array Value} {ms : List Mem} {ks : List (ByteArray × Int)} {nm ad gr : ByteArray} {inc nx d : Int} {va vr : Value} {l : List Mem} {q : List (ByteArray × Int)}
theorem BI.toF (h : BI w wr base nb mb sb AB RB N M ms ks nm inc ad gr nx va vr d l q) : BF w wr base nb mb sb AB RB N M ms ks nm inc ad gr nx va vr l q (roundA nx va vr AB d) := by
  obtain ⟨⟨N1, sv, E, h1, h2, h3, h4, h5, h6, h7, h8, h9⟩, mp, bR, bU, kp, hab, hrb⟩ := h
  exact ⟨⟨N1, sv, E, h1, h2, h3, h6, h7, h8, h9⟩, mp, bR, bU, kp, hab, hrb⟩
theorem BF.later (h : BF w wr base nb mb sb AB RB N M ms ks nm inc ad gr nx va vr l q R) (k : Kept (fun _ => True) wr w') : BF w w' base nb mb sb AB RB N M ms ks nm inc ad gr nx va vr l q R := by
  obtain ⟨⟨N1, sv, E, h1, h2, h3, h6, h7, h8, h9⟩, mp, bR, bU, kp, hab, hrb⟩ := h
  exact ⟨⟨N1, sv, E, h1.kept k trivial trivial trivial, h2, h3, h6, h7, own_kept h8 k (fun _ _ _ _ => trivial), fun e he => ⟨(h9 e he).1.kept k, (h9 e he).2⟩⟩, mp.kept k trivial, bR.kept k trivial, bU.kept k trivial, kp.trans (k.mono fun _ _ _ => trivial), hab, hrb⟩
theorem BF.setR (h : BF w wr base nb mb sb AB RB N M ms ks nm inc ad gr nx va vr l q R) (j : Nat) (v : Value) : BF w (wr.setCell ⟨RB, j, none⟩ v) base nb mb sb AB RB N M ms ks nm inc ad gr nx va vr l q (R.setIfInBounds j v) := by
  obtain ⟨⟨N1, sv, E, h1, h2, h3, h6, h7, h8, h9⟩, mp, bR, bU, kp, hab, hrb⟩ := h
  have K : Kept (fun k => k ≠ RB) wr (wr.setCell ⟨RB, j, none⟩ v) := (Kept.refl _ wr).setCell (q := ⟨RB, j, none⟩) (by simp) _
  have nz : ∀ {k t c}, Blk wr k t c → t ≠ 51 → k ≠ RB := fun hb hn => hb.ne bR hn
  refine ⟨⟨N1, sv, E, h1.kept K (nz h1.hN (by decide)) (nz h1.hM (by decide)) (h1.hmp.ne bR), h2, h3, h6, h7, own_kept h8 K (fun b c _ hc => nz (show Blk wr b 83 c from hc) (by decide)), fun e he => ⟨own_kept (h9 e he).1 K (fun b c _ hc => nz (show Blk wr b 33 c from hc) (by decide)), (h9 e he).2⟩⟩, mp.kept K (mp.ne bR), bR.set j v, bU.kept K (nz bU (by decide)), ?_, hab, hrb⟩
  refine ⟨K.os.trans kp.os, K.tape.trans kp.tape, K.output.trans kp.output, Nat.le_trans kp.size K.size, fun k hk hp => ?_⟩
  rw [K.block k (Nat.lt_of_lt_of_le hk kp.size) (by show k ≠ RB; omega)]
  exact kp.block k hk hp
end

/-- Which update is proposed. -/
def Way (w wx : World) (ap : Option Addr) (P : List Prp) (nx : Int) (ks lvs : List (ByteArray × Int)) (ms : List Mem) (N N0 : Array Value) (va vr : Value) : Prop :=
  (∃ ab, ap = some ⟨ab, 0, none⟩ ∧ Blk w ab 39 #[va, vr] ∧ N0 = N) ∨
  (ap = none ∧ (∃ j, bst P nx P.length = some j ∧ va = .slice (P.getD j prp0).oa (P.getD j prp0).na (P.getD j prp0).ca ∧ vr = .slice (P.getD j prp0).ob (P.getD j prp0).nr (P.getD j prp0).cr) ∧ N0 = N) ∨
  (ap = none ∧ bst P nx P.length = none ∧ va = .slice none 0 0 ∧ OwnI wx vr (remL ks lvs ms) ∧ N0 = N.setIfInBounds 34 (.slice none 0 0))

/-- What propose starts from. -/
structure Pre (w : World) (nb mb sb OB pb : Nat) (N M O A : Array Value) (ms : List Mem) (ks lvs : List (ByteArray × Int)) (P : List Prp) (ap : Option Addr) (lv : Value) : Prop where
  nk : NodeOk w nb mb sb N M ms ks
  bO : Blk w OB 51 O
  o12 : O[12]? = some (.pointer ap)
  o13 : O[13]? = some (.slice (some ⟨pb, 0, none⟩) P.length P.length)
  bA : Blk w pb 42 A
  hA : A.toList = prpCells P
  ol : OwnI w lv lvs
  hap : ∀ a, ap = some a → ∃ ab oa na ca ob nr cr, a = ⟨ab, 0, none⟩ ∧ Blk w ab 39 #[.slice oa na ca, .slice ob nr cr]
end Go.Proofs.Ybulkcdnw
