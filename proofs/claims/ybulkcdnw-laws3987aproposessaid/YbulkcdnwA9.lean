/-
  (*Node).begin.
-/
import Derived.Test.YbulkcdnwA7
import Derived.Test.YbulkcdnwA8
import Derived.Laws.Tables
namespace Go.Proofs.Ybulkcdnw
open Go.RowKit
set_option maxRecDepth 100000
set_option linter.unusedSimpArgs false
set_option linter.unusedVariables false
attribute [local go_sem ↓] Go.wp_at_zero Go.wp_at_succ

theorem mk44 (w : World) : (Instr.makeMap 44 none).run Yba.prog w = .ok (.map (some w.heap.size)) (w.alloc (.map #[] 0)) := by
  simp [Instr.makeMap, run_newObj_alloc]

theorem add_exp (d : Int) (w : World) (d0 : -9223372036854775808 ≤ d) (d1 : d ≤ 9223372036854775807) :
    Calls Yba.prog 11 #[.agg #[.int .u64 0, .int .i64 0, .pointer none], .int .i64 d] w fun e w' => e = .returned (.agg #[.int .u64 (d % 1000000000), .int .i64 (d / 1000000000), .pointer none]) ∧ Kept (fun _ => True) w w' := add_any d w d0 d1

theorem Kept.cellT {w w' : World} (h : Kept (fun _ => True) w w') {b o : Nat} (hb : b < w.heap.size) : w'.cell? ⟨b, o, none⟩ = w.cell? ⟨b, o, none⟩ := by
  rw [World.cell?, World.cell?]
  simp only [h.block b hb trivial]
theorem alloc_cell (w : World) (o : Obj) (b j : Nat) (hb : b < w.heap.size) : (w.alloc o).cell? ⟨b, j, none⟩ = w.cell? ⟨b, j, none⟩ := ((Kept.refl (fun _ => True) w).alloc o).cellT hb

/-- The round that begin makes. -/
def roundA (nx : Int) (va vr : Value) (AB : Nat) (d : Int) : Array Value :=
  #[.int .u64 nx, va, vr, .string ⟨#[115, 117, 98, 109, 105, 116, 116, 101, 100]⟩, .map (some AB), .int .i64 0, .int .u64 (d % 1000000000), .int .i64 (d / 1000000000), .pointer none, .int .u64 0, .int .i64 0, .pointer none, .pointer none, .slice none 0 0, .slice none 0 0]

theorem build51 (n a b : Int) (oa ob : Option Addr) (na ca nb cb : Nat) (s : ByteArray) (m : Option Nat) (w : World) :
    (Instr.build 51 #[(0, .int .u64 n), (1, .agg #[.slice oa na ca, .slice ob nb cb]), (2, .string s), (3, .map m), (5, .agg #[.int .u64 a, .int .i64 b, .pointer none])]).run Yba.prog w =
      .ok (.agg #[.int .u64 n, .slice oa na ca, .slice ob nb cb, .string s, .map m, .int .i64 0, .int .u64 a, .int .i64 b, .pointer none, .int .u64 0, .int .i64 0, .pointer none, .pointer none, .slice none 0 0, .slice none 0 0]) w := run_build w 51 _ _ (by kernel_rfl)

/-- Behind the round's making. -/
structure Bg (w wx : World) (AB RB : Nat) (nx : Int) (va vr : Value) (d : Int) : Prop where
  bU : Blk wx w.heap.size 39 #[va, vr]
  mp : Mp wx AB []
  bR : Blk wx RB 51 (roundA nx va vr AB d)
  kept : Kept (fun _ => True) w wx
  hab : w.heap.size < AB
  hrb : w.heap.size < RB
theorem bg1 {w w1 : World} {va vr : Value} {nx d : Int} (h : Kept (fun _ => True) ((w.alloc (.cells #[va, vr] 39)).drew.alloc (.map #[] 0)) w1) :
    Bg w (w1.alloc (.cells (roundA nx va vr (w.heap.size + 1) d) 51)) (w.heap.size + 1) w1.heap.size nx va vr d := by
  have K0 : Kept (fun _ => True) w ((w.alloc (.cells #[va, vr] 39)).drew.alloc (.map #[] 0)) := (((Kept.refl _ w).alloc _).drew).alloc _
  have b := (((Blk.new w 39 #[va, vr]).drew).alloc (.map #[] 0)).kept h trivial
  have m : Mp ((w.alloc (.cells #[va, vr] 39)).drew.alloc (.map #[] 0)) (w.heap.size + 1) [] := by
    have := Mp.new ((w.alloc (.cells #[va, vr] 39)).drew)
    simpa using this
  exact ⟨b.alloc _, (m.kept h trivial).kept ((Kept.refl (fun _ => True) w1).alloc _) trivial, Blk.new _ _ _, (K0.trans h).alloc _, by omega, by have := h.size; have e : ((w.alloc (.cells #[va, vr] 39)).drew.alloc (.map #[] 0)).heap.size = w.heap.size + 2 := (by simp); omega⟩
theorem bg2 {w w1 : World} {va vr : Value} {nx d : Int} (h : Kept (fun _ => True) (w.alloc (.cells #[va, vr] 39)).drew w1) :
    Bg w ((w1.alloc (.map #[] 0)).alloc (.cells (roundA nx va vr w1.heap.size d) 51)) w1.heap.size (w1.heap.size + 1) nx va vr d := by
  have K0 : Kept (fun _ => True) w (w.alloc (.cells #[va, vr] 39)).drew := ((Kept.refl _ w).alloc _).drew
  have b := ((Blk.new w 39 #[va, vr]).drew).kept h trivial
  have r := Blk.new (w1.alloc (.map #[] 0)) 51 (roundA nx va vr w1.heap.size d)
  exact ⟨(b.alloc _).alloc _, (Mp.new w1).kept ((Kept.refl (fun _ => True) _).alloc _) trivial, by simpa using r, ((K0.trans h).alloc _).alloc _, by have := h.size; have e : (w.alloc (.cells #[va, vr] 39)).drew.heap.size = w.heap.size + 1 := (by simp); omega, by have := h.size; have e : (w.alloc (.cells #[va, vr] 39)).drew.heap.size = w.heap.size + 1 := (by simp); omega⟩

/-- Who gets the submission. -/
def sel (nm : ByteArray) (inc : Int) (ks : List (ByteArray × Int)) (m : Mem) : Bool := !(m.nm.toList == nm.toList && m.inc == inc) && !hasK ks (m.nm, m.inc)
def tgts (nm : ByteArray) (inc : Int) (ks : List (ByteArray × Int)) (ms : List Mem) : List Mem := ms.filter (sel nm inc ks)
theorem tgts_snoc (nm : ByteArray) (inc : Int) (ks : List (ByteArray × Int)) (ms : List Mem) (m : Mem) : tgts nm inc ks (ms ++ [m]) = tgts nm inc ks ms ++ (if sel nm inc ks m = true then [m] else []) := by
  unfold tgts
  rw [List.filter_append]
  by_cases h : sel nm inc ks m = true <;> simp [h]
/-- One message in the queue: to whom, the suspects' row, whom it says it told. -/
def env3 (nm : ByteArray) (inc : Int) (ad gr : ByteArray) (nx : Int) (UB : Nat) (e : Mem × Value × Value) : List Value :=
  [.string e.1.ad, .string ⟨#[115, 117, 98, 109, 105, 116]⟩, .string nm, .int .u64 inc, .string ad, e.2.1, e.2.2, .int .u64 nx, .pointer (some ⟨UB, 0, none⟩), .pointer none, .pointer none, .pointer none, .pointer none, .pointer none, .pointer none, .slice none 0 0, .map none, .string gr, .pointer none]
/-- The loop of begin. -/
structure BI (w wr : World) (base nb mb sb AB RB : Nat) (N M : Array Value) (ms : List Mem) (ks : List (ByteArray × Int)) (nm : ByteArray) (inc : Int) (ad gr : ByteArray) (nx : Int) (va vr : Value) (d : Int) (l : List Mem) (q : List (ByteArray × Int)) : Prop where
  ex : ∃ (N1 : Array Value) (sv : Value) (E : List (Mem × Value × Value)), NodeOk wr nb mb sb N1 M ms ks ∧ (∀ j, j ≠ 35 → j ≠ 50 → j ≠ 51 → j ≠ 61 → N1[j]? = N[j]?) ∧ N1[35]? = some (.pointer (some ⟨RB, 0, none⟩)) ∧ (∃ t, N1[50]? = some (.string t)) ∧ (∃ u, N1[51]? = some (.int .u64 u)) ∧ N1[61]? = some sv ∧
    E.map (·.1) = tgts nm inc ks l ∧ wr.ownsRow base 83 19 sv E.length (E.flatMap (env3 nm inc ad gr nx w.heap.size)) ∧ (∀ e ∈ E, OwnI wr e.2.1 (susL ks ms) ∧ e.2.2.oneCell' = true)
  mp : Mp wr AB q
  bR : Blk wr RB 51 (roundA nx va vr AB d)
  bU : Blk wr w.heap.size 39 #[va, vr]
  kept : Kept (fun k => k < base ∨ (k ≠ nb ∧ ∀ c, w.heap[k]? ≠ some (.cells c 83 (0, 0)))) w wr
  hab : w.heap.size < AB
  hrb : w.heap.size < RB

theorem bi_start {w w2 : World} {base nb mb sb AB RB : Nat} {N M : Array Value} {ms : List Mem} {ks : List (ByteArray × Int)} {nm ad gr : ByteArray} {inc nx d u : Int} {va vr old : Value} {t : ByteArray} (hH : NodeOk w nb mb sb N M ms ks) (hB : Bg w w2 AB RB nx va vr d) (hbase : base ≤ nb)
    (h35 : N[35]? = some old) (h61 : N[61]? = some (.slice none 0 0)) (h50 : N[50]? = some (.string t)) (h51 : N[51]? = some (.int .u64 u)) : BI w (w2.setCell ⟨nb, 35, none⟩ (.pointer (some ⟨RB, 0, none⟩))) base nb mb sb AB RB N M ms ks nm inc ad gr nx va vr d [] [] := by
  have hH2 := hH.kept hB.kept trivial trivial trivial
  have K : Kept (fun k => k ≠ nb) w2 (w2.setCell ⟨nb, 35, none⟩ (.pointer (some ⟨RB, 0, none⟩))) := (Kept.refl _ w2).setCell (q := ⟨nb, 35, none⟩) (by simp) _
  have hlt := (Array.getElem?_eq_some_iff.1 h35).1
  refine ⟨⟨N.setIfInBounds 35 (.pointer (some ⟨RB, 0, none⟩)), .slice none 0 0, [], ⟨hH2.hN.set 35 _, hH2.hM.kept K (hH2.hM.ne hH2.hN (by decide)), hH2.hMs, hH2.hmp.kept K (hH2.hmp.ne hH2.hN)⟩, ?_, ?_, ⟨t, ?_⟩, ⟨u, ?_⟩, ?_, rfl, ⟨rfl, .inl ⟨rfl, rfl⟩⟩, fun e he => by cases he⟩, hB.mp.kept K (hB.mp.ne hH2.hN), hB.bR.kept K (hB.bR.ne hH2.hN (by decide)), hB.bU.kept K (hB.bU.ne hH2.hN (by decide)), ?_, hB.hab, hB.hrb⟩
  · intro j e1 _ _ _
    rw [Array.getElem?_setIfInBounds, if_neg (by omega)]
  · rw [Array.getElem?_setIfInBounds, if_pos rfl, if_pos hlt]
  · rw [Array.getElem?_setIfInBounds, if_neg (by omega)]; exact h50
  · rw [Array.getElem?_setIfInBounds, if_neg (by omega)]; exact h51
  · rw [Array.getElem?_setIfInBounds, if_neg (by omega)]; exact h61
  · refine (hB.kept.mono fun _ _ _ => trivial).trans (K.mono fun k hk hp => ?_)
    rcases hp with h | h <;> omega

section
variable {w wr w' : World} {base nb mb sb AB RB : Nat} {N M : Array Value} {ms : List Mem} {ks : List (ByteArray × Int)} {nm ad gr : ByteArray} {inc nx d : Int} {va vr : Value} {l : List Mem} {q : List (ByteArray × Int)}
theorem BI.later (h : BI w wr base nb mb sb AB RB N M ms ks nm inc ad gr nx va vr d l q) (k : Kept (fun _ => True) wr w') : BI w w' base nb mb sb AB RB N M ms ks nm inc ad gr nx va vr d l q := by
  obtain ⟨⟨N1, sv, E, h1, h2, h3, h4, h5, h6, h7, h8, h9⟩, mp, bR, bU, kp, hab, hrb⟩ := h
  exact ⟨⟨N1, sv, E, h1.kept k trivial trivial trivial, h2, h3, h4, h5, h6, h7, own_kept h8 k (fun _ _ _ _ => trivial), fun e he => ⟨(h9 e he).1.kept k, (h9 e he).2⟩⟩, mp.kept k trivial, bR.kept k trivial, bU.kept k trivial, kp.trans (k.mono fun _ _ _ => trivial), hab, hrb⟩
theorem BI.skip (h : BI w wr base nb mb sb AB RB N M ms ks nm inc ad gr nx va vr d l q) {m : Mem} (hm : sel nm inc ks m = false) : BI w wr base nb mb sb AB RB N M ms ks nm inc ad gr nx va vr d (l ++ [m]) q := by
  obtain ⟨⟨N1, sv, E, h1, h2, h3, h4, h5, h6, h7, h8, h9⟩, mp, bR, bU, kp, hab, hrb⟩ := h
  refine ⟨⟨N1, sv, E, h1, h2, h3, h4, h5, h6, ?_, h8, h9⟩, mp, bR, bU, kp, hab, hrb⟩
  rw [tgts_snoc, if_neg (by rw [hm]; decide), List.append_nil]
  exact h7
theorem BI.mapped (h : BI w wr base nb mb sb AB RB N M ms ks nm inc ad gr nx va vr d l q) (hwr : w.heap.size ≤ wr.heap.size) (hsb : sb ≠ AB) (q' : List (ByteArray × Int)) : BI w (World.mapSet wr AB q') base nb mb sb AB RB N M ms ks nm inc ad gr nx va vr d l q' := by
  obtain ⟨⟨N1, sv, E, h1, h2, h3, h4, h5, h6, h7, h8, h9⟩, mp, bR, bU, kp, hab, hrb⟩ := h
  have K : Kept (fun k => k ≠ AB) wr (World.mapSet wr AB q') := kept_mapSet (Kept.refl _ wr) (by simp) q'
  have nz : ∀ {k t c}, Blk wr k t c → k ≠ AB := fun hb => (mp.ne hb).symm
  refine ⟨⟨N1, sv, E, h1.kept K (nz h1.hN) (nz h1.hM) hsb, h2, h3, h4, h5, h6, h7, own_kept h8 K (fun b c _ hc => nz (show Blk wr b 83 c from hc)), fun e he => ⟨own_kept (h9 e he).1 K (fun b c _ hc => nz (show Blk wr b 33 c from hc)), (h9 e he).2⟩⟩, mp.set, bR.kept K (nz bR), bU.kept K (nz bU), ?_, hab, hrb⟩
  refine ⟨K.os.trans kp.os, K.tape.trans kp.tape, K.output.trans kp.output, Nat.le_trans kp.size K.size, fun k hk hp => ?_⟩
  rw [K.block k (Nat.lt_of_lt_of_le hk kp.size) (by show k ≠ AB; omega)]
  exact kp.block k hk hp
theorem BI.sent (h : BI w wr base nb mb sb AB RB N M ms ks nm inc ad gr nx va vr d l q) {m : Mem} (hm : sel nm inc ks m = true) (hbase : base ≤ nb) {N1 : Array Value} {sus told sv : Value} {E : List (Mem × Value × Value)} 
    (h2 : ∀ j, j ≠ 35 → j ≠ 50 → j ≠ 51 → j ≠ 61 → N1[j]? = N[j]?) (h3 : N1[35]? = some (.pointer (some ⟨RB, 0, none⟩))) (h61 : N1[61]? = some sv) (h7 : E.map (·.1) = tgts nm inc ks l) (h9 : ∀ e ∈ E, OwnI wr e.2.1 (susL ks ms) ∧ e.2.2.oneCell' = true) (hN : Blk wr nb 72 N1) (ht : told.oneCell' = true)
    (hs : Sent wr w' nb mb sb base N1 M ms ks sus (E.length + 1) (E.flatMap (env3 nm inc ad gr nx w.heap.size) ++ env3 nm inc ad gr nx w.heap.size (m, sus, told))) : BI w w' base nb mb sb AB RB N M ms ks nm inc ad gr nx va vr d (l ++ [m]) q := by
  obtain ⟨_, mp, bR, bU, kp, hab, hrb⟩ := h
  obtain ⟨⟨N2, sv', g1, g2, g3, g4, g5, g6⟩, k6⟩ := hs
  have P : ∀ {k t c}, Blk wr k t c → t ≠ 72 → t ≠ 83 → k < base ∨ (k ≠ nb ∧ ∀ c, wr.heap[k]? ≠ some (.cells c 83 (0, 0))) := fun {k t c} hb e1 e2 =>
    Or.inr ⟨hb.ne hN e1, fun c' hc => by
      have := (show wr.heap[k]? = _ from hb).symm.trans hc
      simp at this
      exact e2 this.2⟩
  have hlt61 := (Array.getElem?_eq_some_iff.1 ((g2 61 (by decide) (by decide)).trans h61)).1
  refine ⟨⟨N2.setIfInBounds 61 sv', sv', E ++ [(m, sus, told)], g1, ?_, ?_, ?_, ?_, ?_, ?_, ?_, ?_⟩, mp.kept k6 (Or.inr ⟨mp.ne hN, fun c hc => ?_⟩), bR.kept k6 (P bR (by decide) (by decide)), bU.kept k6 (P bU (by decide) (by decide)), ?_, hab, hrb⟩
  · intro j e1 e2 e3 e4
    rw [Array.getElem?_setIfInBounds, if_neg (by omega), g2 j e2 e3, h2 j e1 e2 e3 e4]
  · rw [Array.getElem?_setIfInBounds, if_neg (by decide), g2 35 (by decide) (by decide), h3]
  · obtain ⟨t, ht⟩ := g3
    exact ⟨t, by rw [Array.getElem?_setIfInBounds, if_neg (by decide), ht]⟩
  · obtain ⟨u, hu⟩ := g4
    exact ⟨u, by rw [Array.getElem?_setIfInBounds, if_neg (by decide), hu]⟩
  · rw [Array.getElem?_setIfInBounds, if_pos rfl, if_pos hlt61]
  · rw [tgts_snoc, if_pos hm, List.map_append, h7]
    rfl
  · rw [List.length_append, List.flatMap_append]
    simpa using g6
  · intro e he
    rcases List.mem_append.1 he with he | he
    · exact ⟨own_kept (h9 e he).1 k6 (fun b c _ hc => P (show Blk wr b 33 c from hc) (by decide) (by decide)), (h9 e he).2⟩
    · obtain rfl := List.mem_singleton.1 he
      exact ⟨g5, ht⟩
  · have := (show wr.heap[AB]? = _ from mp).symm.trans hc
    simp at this
  · refine ⟨k6.os.trans kp.os, k6.tape.trans kp.tape, k6.output.trans kp.output, Nat.le_trans kp.size k6.size, fun k hk hp => ?_⟩
    have e := kp.block k hk hp
    rw [k6.block k (Nat.lt_of_lt_of_le hk kp.size) (by
      rcases hp with h | ⟨h1, h⟩
      · exact Or.inl h
      · exact Or.inr ⟨h1, fun c hc => h c (by rw [← e]; exact hc)⟩)]
    exact e
end
end Go.Proofs.Ybulkcdnw
