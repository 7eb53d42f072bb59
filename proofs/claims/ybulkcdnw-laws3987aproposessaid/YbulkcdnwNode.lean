/-
  The law Proposes: the round and the node that it lays.
-/
import Derived.Test.YbulkcdnwA17
namespace Go.Proofs.Ybulkcdnw
open Go.RowKit
set_option maxRecDepth 100000
set_option linter.unusedSimpArgs false
set_option linter.unusedVariables false

def oldA (v : Int) (apx : Option Addr) (PB n : Nat) : Array Value :=
  #[.int .u64 v, .slice none 0 0, .slice none 0 0, .string ⟨#[105, 110, 116, 101, 114, 114, 111, 103, 97, 116, 105, 110, 103]⟩, .map none, .int .i64 0, .int .u64 0, .int .i64 0, .pointer none, .int .u64 0, .int .i64 0, .pointer none, .pointer apx, .slice (some ⟨PB, 0, none⟩) n n, .slice none 0 0]
theorem build51o (v : Int) (apx : Option Addr) (PB n : Nat) (w : World) :
    (Instr.build 51 #[(0, .int .u64 v), (2, .string ⟨#[105, 110, 116, 101, 114, 114, 111, 103, 97, 116, 105, 110, 103]⟩), (7, .pointer apx), (8, .slice (some ⟨PB, 0, none⟩) n n)]).run Yba.prog w = .ok (.agg (oldA v apx PB n)) w := run_build w 51 _ _ (by kernel_rfl)
theorem box51o (v : Int) (apx : Option Addr) (PB n : Nat) (w : World) : (Instr.box 51 (.agg (oldA v apx PB n))).run Yba.prog w = .ok (.pointer (some ⟨w.heap.size, 0, none⟩)) (w.alloc (.cells (oldA v apx PB n) 51)) := by kernel_rfl
theorem mk59 (w : World) : (Instr.makeMap 59 none).run Yba.prog w = .ok (.map (some w.heap.size)) (w.alloc (.map #[] 0)) := by
  simp [Instr.makeMap, run_newObj_alloc]
/-- The node's cells. -/
def nodeA (me : Mem) (d num : Int) (mb L : Nat) (gr : ByteArray) (M1 M2 sb : Nat) (lv : Value) (OB : Nat) : Array Value :=
  #[.string me.nm, .int .u64 me.inc, .string me.ad, .string me.tk, .string ⟨#[109, 101, 109, 98, 101, 114]⟩,
    .int .i64 0, .int .i64 d, .int .i64 0, .int .i64 0, .int .u64 0, .int .i64 0, .pointer none, .int .i64 0,
    .int .u64 0, .int .i64 0, .pointer none, .int .u64 num, .slice (some ⟨mb, 0, none⟩) L L, .slice none 0 0,
    .slice none 0 0, .string gr, .bool false, .bool false, .map (some M2), .bool false, .pointer none, .slice none 0 0, .slice none 0 0, .pointer none, .pointer none,
    .pointer none, .pointer none, .map (some M1), .slice none 0 0, lv, .pointer (some ⟨OB, 0, none⟩), .int .u64 0, .int .i64 0, .pointer none, .map (some sb),
    .string ⟨#[]⟩, .int .u64 0, .string ⟨#[]⟩, .string ⟨#[]⟩, .int .u64 0, .int .i64 0, .pointer none, .int .u64 0, .int .i64 0, .pointer none,
    .string ⟨#[]⟩, .int .u64 0, .bool false, .string ⟨#[]⟩, .int .u64 0, .string ⟨#[]⟩, .string ⟨#[]⟩, .int .u64 0, .int .i64 0, .pointer none, .slice none 0 0, .slice none 0 0, .slice none 0 0, .slice none 0 0]
theorem build56 (d : Int) (w : World) : (Instr.build 56 #[(1, .int .i64 d)]).run Yba.prog w = .ok (.agg #[.int .i64 0, .int .i64 d, .int .i64 0, .int .i64 0]) w := run_build w 56 _ _ (by kernel_rfl)
theorem build58 (num : Int) (mb L : Nat) (w : World) : (Instr.build 58 #[(0, .int .u64 num), (1, .slice (some ⟨mb, 0, none⟩) L L)]).run Yba.prog w = .ok (.agg #[.int .u64 num, .slice (some ⟨mb, 0, none⟩) L L]) w := run_build w 58 _ _ (by kernel_rfl)
theorem build61 (lo : Option Addr) (ln lc OB : Nat) (w : World) : (Instr.build 61 #[(1, .slice lo ln lc), (2, .pointer (some ⟨OB, 0, none⟩))]).run Yba.prog w = .ok (.agg #[.slice none 0 0, .slice lo ln lc, .pointer (some ⟨OB, 0, none⟩), .int .u64 0, .int .i64 0, .pointer none]) w := run_build w 61 _ _ (by kernel_rfl)
theorem build72 (me : Mem) (d num : Int) (mb L : Nat) (gr : ByteArray) (M1 M2 sb : Nat) (lo : Option Addr) (ln lc OB : Nat) (w : World) :
    (Instr.build 72 #[(0, .agg #[.string me.nm, .int .u64 me.inc, .string me.ad, .string me.tk]), (1, .string ⟨#[109, 101, 109, 98, 101, 114]⟩), (2, .agg #[.int .i64 0, .int .i64 d, .int .i64 0, .int .i64 0]), (6, .agg #[.int .u64 num, .slice (some ⟨mb, 0, none⟩) L L]), (9, .string gr), (20, .map (some M1)), (22, .map (some sb)), (12, .map (some M2)), (21, .agg #[.slice none 0 0, .slice lo ln lc, .pointer (some ⟨OB, 0, none⟩), .int .u64 0, .int .i64 0, .pointer none])]).run Yba.prog w =
      .ok (.agg (nodeA me d num mb L gr M1 M2 sb (.slice lo ln lc) OB)) w := run_build w 72 _ _ (by kernel_rfl)
theorem box72 (me : Mem) (d num : Int) (mb L : Nat) (gr : ByteArray) (M1 M2 sb : Nat) (lv : Value) (OB : Nat) (w : World) : (Instr.box 72 (.agg (nodeA me d num mb L gr M1 M2 sb lv OB))).run Yba.prog w = .ok (.pointer (some ⟨w.heap.size, 0, none⟩)) (w.alloc (.cells (nodeA me d num mb L gr M1 M2 sb lv OB) 72)) := by kernel_rfl
theorem wpList_build72 {ops : Array Oper} {rest : List Oper} {o : Oper} {a : Act} {w : World} {Q : Exit → Act → World → Prop} (hg : o.guard = none) (ho : o.op = .build 72 #[(0, .tmp 320), (1, .const (.string ⟨#[109, 101, 109, 98, 101, 114]⟩)), (2, .tmp 322), (6, .tmp 325), (9, .tmp 326), (20, .tmp 327), (22, .tmp 328), (12, .tmp 329), (21, .tmp 332)])
    (me : Mem) (d num : Int) (mb L : Nat) (gr : ByteArray) (M1 M2 sb : Nat) (lo : Option Addr) (ln lc OB : Nat)
    (h1 : a.eval (.tmp 320) = .agg #[.string me.nm, .int .u64 me.inc, .string me.ad, .string me.tk]) (h2 : a.eval (.tmp 322) = .agg #[.int .i64 0, .int .i64 d, .int .i64 0, .int .i64 0]) (h3 : a.eval (.tmp 325) = .agg #[.int .u64 num, .slice (some ⟨mb, 0, none⟩) L L]) (h4 : a.eval (.tmp 326) = .string gr) (h5 : a.eval (.tmp 327) = .map (some M1)) (h6 : a.eval (.tmp 328) = .map (some sb)) (h7 : a.eval (.tmp 329) = .map (some M2)) (h8 : a.eval (.tmp 332) = .agg #[.slice none 0 0, .slice lo ln lc, .pointer (some ⟨OB, 0, none⟩), .int .u64 0, .int .i64 0, .pointer none])
    (h : wpList Yba.prog ops Q rest (a.put o.dst (.agg (nodeA me d num mb L gr M1 M2 sb (.slice lo ln lc) OB))) w) : wpList Yba.prog ops Q (o :: rest) a w := by
  refine wpList_plain hg fun K hK => ?_
  unfold Oper.wp execOp
  have hc : a.eval (.const (.string ⟨#[109, 101, 109, 98, 101, 114]⟩)) = .string ⟨#[109, 101, 109, 98, 101, 114]⟩ := rfl
  simp only [ho, Sem.run_bind, List.map_toArray, List.map, h1, h2, h3, h4, h5, h6, h7, h8, hc, build72, Result.andThen_ok]
  exact hK _ _ h
theorem wpList_box72 {ops : Array Oper} {rest : List Oper} {o : Oper} {a : Act} {w : World} {Q : Exit → Act → World → Prop} (hg : o.guard = none) (ho : o.op = .box 72 (.tmp 333))
    (me : Mem) (d num : Int) (mb L : Nat) (gr : ByteArray) (M1 M2 sb : Nat) (lv : Value) (OB : Nat) (hx : a.eval (.tmp 333) = .agg (nodeA me d num mb L gr M1 M2 sb lv OB))
    (h : wpList Yba.prog ops Q rest (a.put o.dst (.pointer (some ⟨w.heap.size, 0, none⟩))) (w.alloc (.cells (nodeA me d num mb L gr M1 M2 sb lv OB) 72))) : wpList Yba.prog ops Q (o :: rest) a w := by
  refine wpList_plain hg fun K hK => ?_
  unfold Oper.wp execOp
  simp only [ho, Sem.run_bind, hx, box72, Result.andThen_ok]
  exact hK _ _ h
/-- The new round, as propose leaves it. -/
def rndA (nx : Int) (va vr : Value) (AB : Nat) (d : Int) (apx : Option Addr) (PB n : Nat) : Array Value :=
  #[.int .u64 nx, va, vr, .string ⟨#[115, 117, 98, 109, 105, 116, 116, 101, 100]⟩, .map (some AB), .int .i64 0, .int .u64 (d % 1000000000), .int .i64 (d / 1000000000), .pointer none, .int .u64 0, .int .i64 0, .pointer none, .pointer apx, .slice (some ⟨PB, 0, none⟩) n n, .slice none 0 0]
/-- Two updates with one content. -/
def Same (w : World) (va vr vb vq : Value) : Prop := ∃ (ms : List Mem) (l : List (ByteArray × Int)), ms.length ≤ 300 ∧ l.length ≤ 300 ∧ OwnM w va ms ∧ OwnM w vb ms ∧ OwnI w vr l ∧ OwnI w vq l
theorem Same.later {w w' : World} {va vr vb vq : Value} (h : Same w va vr vb vq) (k : Kept (fun _ => True) w w') : Same w' va vr vb vq := by
  obtain ⟨ms, l, h1, h2, h3, h4, h5, h6⟩ := h
  exact ⟨ms, l, h1, h2, h3.kept k, h4.kept k, h5.kept k, h6.kept k⟩
/-- Ahead of the call of propose. -/
structure FP (w wx : World) (MB SB PB WB XB NB OB M1 M2 : Nat) (am : Option Addr) (zs : List ZM) (me : Mem) (P : List Prp) (apx : Option Addr) (nx view aft : Int) (grp : ByteArray) (oa : Option Addr) (na ca : Nat) (ob : Option Addr) (nr cr : Nat) (ks lvs : List (ByteArray × Int)) (lv sl : Value) : Prop where
  s6 : S6 w wx MB SB PB WB XB am zs me P apx nx oa na ca ob nr cr ks lvs lv
  os : OwnI wx sl (susL ks (mkMs zs))
  bO : Blk wx OB 51 (oldA view apx PB P.length)
  bN : Blk wx NB 72 (nodeA me aft view MB zs.length grp M1 M2 XB lv OB)
  lt : XB < NB
/-- Behind it. -/
structure FS (w V : World) (fb : Bool) (MB SB PB WB XB NB AB RB UB OB : Nat) (am : Option Addr) (zs : List ZM) (me : Mem) (P : List Prp) (apx : Option Addr) (nx aft : Int) (grp : ByteArray) (oa : Option Addr) (na ca : Nat) (ob : Option Addr) (nr cr : Nat) (ks lvs : List (ByteArray × Int)) (lv sl va vr sv : Value) (N : Array Value) (E : List (Mem × Value × Value)) : Prop where
  s6 : S6 w V MB SB PB WB XB am zs me P apx nx oa na ca ob nr cr ks lvs lv
  os : OwnI V sl (susL ks (mkMs zs))
  same : Same V va vr (.slice oa na ca) (.slice ob nr cr)
  bR : Blk V RB 51 (rndA nx va vr AB aft apx PB P.length)
  bU : Blk V UB 39 #[va, vr]
  bN : Blk V NB 72 N
  n35 : N[35]? = some (.pointer (some ⟨RB, 0, none⟩))
  n34 : N[34]? = some (if fb = true then lv else .slice none 0 0)
  n61 : N[61]? = some sv
  n63 : N[63]? = some (.slice none 0 0)
  e1 : E.map (·.1) = tgts me.nm me.inc ks (mkMs zs)
  oE : V.ownsRow 0 83 19 sv E.length (E.flatMap (env3 me.nm me.inc me.ad grp nx UB))
  sE : ∀ e ∈ E, OwnI V e.2.1 (susL ks (mkMs zs)) ∧ e.2.2.oneCell' = true
  mp : Mp V AB ((tgts me.nm me.inc ks (mkMs zs)).map idOf)
  hne : RB ≠ OB
  bO : ∃ O, Blk V OB 51 O
theorem FS.later {w V V' : World} {fb : Bool} {MB SB PB WB XB NB AB RB UB OB : Nat} {am : Option Addr} {zs : List ZM} {me : Mem} {P : List Prp} {apx : Option Addr} {nx aft : Int} {grp : ByteArray} {oa : Option Addr} {na ca : Nat} {ob : Option Addr} {nr cr : Nat} {ks lvs : List (ByteArray × Int)} {lv sl va vr sv : Value} {N : Array Value} {E : List (Mem × Value × Value)}
    (h : FS w V fb MB SB PB WB XB NB AB RB UB OB am zs me P apx nx aft grp oa na ca ob nr cr ks lvs lv sl va vr sv N E) (k : Kept (fun _ => True) V V') : FS w V' fb MB SB PB WB XB NB AB RB UB OB am zs me P apx nx aft grp oa na ca ob nr cr ks lvs lv sl va vr sv N E :=
  ⟨h.s6.later k, h.os.kept k, h.same.later k, h.bR.kept k trivial, h.bU.kept k trivial, h.bN.kept k trivial, h.n35, h.n34, h.n61, h.n63, h.e1, own_kept h.oE k (fun _ _ _ _ => trivial), fun e he => ⟨(h.sE e he).1.kept k, (h.sE e he).2⟩, h.mp.kept k trivial, h.hne, h.bO.elim fun O hO => ⟨O, hO.kept k trivial⟩⟩

theorem UpdOk.keptq {w w' : World} {p : Nat → Prop} {va vr : Value} (h : UpdOk w va vr) (k : Kept p w w') (hq : ∀ b t c, Blk w b t c → t < 51 → p b) : UpdOk w' va vr := h.kept k (fun b c hb => by
  rcases hb with hb | hb
  · exact hq _ _ _ hb (by decide)
  · exact hq _ _ _ hb (by decide))
theorem UpdOk.same {w : World} {va vr : Value} (h : UpdOk w va vr) : Same w va vr va vr := by
  obtain ⟨ms, l, h1, h2, h3, h4⟩ := h
  exact ⟨ms, l, h1, h2, h3, h3, h4, h4⟩
theorem blk_eq {w : World} {b : Nat} {t : TypeId} {A B : Array Value} (ha : Blk w b t A) (hb : Blk w b t B) : A = B := by
  have := (show w.heap[b]? = _ from ha).symm.trans (show w.heap[b]? = _ from hb)
  simpa using this

theorem fs_of {w W16 wx V : World} {fb : Bool} {MB SB PB WB XB NB AB RB OB M1 M2 : Nat} {am : Option Addr} {zs : List ZM} {me : Mem} {P : List Prp} {apx : Option Addr} {nx view aft : Int} {grp : ByteArray} {oa : Option Addr} {na ca : Nat} {ob : Option Addr} {nr cr : Nat} {ks lvs : List (ByteArray × Int)} {lv sl va vr : Value} {N0 M : Array Value} (hlz : zs.length ≤ 300)
    (hfb : (!(apx.isNone && (bst P nx P.length).isNone)) = fb)
    (h : FP w W16 MB SB PB WB XB NB OB M1 M2 am zs me P apx nx view aft grp oa na ca ob nr cr ks lvs lv sl)
    (hw : Way W16 wx apx P nx ks lvs (mkMs zs) (nodeA me aft view MB zs.length grp M1 M2 XB lv OB) N0 va vr) (hk : Kept (fun k => k ≠ NB) W16 wx) (hN0 : Blk wx NB 72 N0)
    (hB : BF wx V NB NB MB XB AB RB N0 M (mkMs zs) ks me.nm me.inc me.ad grp nx va vr (mkMs zs) ((tgts me.nm me.inc ks (mkMs zs)).map idOf) (((roundA nx va vr AB aft).setIfInBounds 13 (.slice (some ⟨PB, 0, none⟩) P.length P.length)).setIfInBounds 12 (.pointer apx))) :
    ∃ sv N E, FS w V fb MB SB PB WB XB NB AB RB wx.heap.size OB am zs me P apx nx aft grp oa na ca ob nr cr ks lvs lv sl va vr sv N E := by
  have l1 := h.s6.le
  have l2 := h.lt
  have q1 : ∀ b t c, Blk W16 b t c → t < 51 → b ≠ NB := fun b t c hb ht => hb.ne h.bN (by intro e; subst e; exact absurd ht (by decide))
  have q2 : ∀ b t c, Blk wx b t c → t < 51 → b < NB ∨ (b ≠ NB ∧ ∀ c, wx.heap[b]? ≠ some (.cells c 83 (0, 0))) := fun b t c hb ht => .inr ⟨hb.ne hN0 (by intro e; subst e; exact absurd ht (by decide)), fun c' hc => by
    have := (show wx.heap[b]? = _ from hb).symm.trans hc
    simp at this
    rw [this.2] at ht
    exact absurd ht (by decide)⟩
  have h6V : S6 w V MB SB PB WB XB am zs me P apx nx oa na ca ob nr cr ks lvs lv := (h.s6.kept hk (fun b hb => by show b ≠ NB; omega) q1 (by show XB ≠ NB; omega)).kept hB.kept (fun b hb => .inl (by omega)) q2 (.inl (by omega))
  have osV : OwnI V sl (susL ks (mkMs zs)) := own_kept (own_kept h.os hk (fun b c _ hc => q1 _ _ _ (show Blk W16 b 33 c from hc) (by decide))) hB.kept (fun b c _ hc => q2 _ _ _ (show Blk wx b 33 c from hc) (by decide))
  have hsame : Same V va vr (.slice oa na ca) (.slice ob nr cr) := by
    rcases hw with ⟨ab, h1, h2, _⟩ | ⟨h1, ⟨j, h2, h3, h4⟩, _⟩ | ⟨h1, h2, h3, h4, _⟩
    · obtain ⟨ab', x1, x2, x3, x4, x5, x6, e1, e2, e3, _⟩ := h.s6.s4.ah _ h1
      cases e1
      rcases h.s6.fw with ⟨ab', g1, g2⟩ | ⟨g1, _⟩ | ⟨g1, _⟩
      · rw [h1] at g1
        cases g1
        have k1 := blk_eq h2 e2
        have k2 := blk_eq g2 e2
        simp only [Array.mk.injEq, List.cons.injEq] at k1 k2
        rw [k1.1, k1.2.1, k2.1, k2.2.1]
        exact ((e3.keptq hk q1).keptq hB.kept q2).same
      · rw [g1] at h1; cases h1
      · rw [g1] at h1; cases h1
    · rcases h6V.fw with ⟨ab', g1, g2⟩ | ⟨_, j', g2, g3, g4, g5, g6, g7, g8⟩ | ⟨_, g2, _⟩
      · rw [g1] at h1; cases h1
      · rw [h2] at g2
        cases g2
        have hj := bst_lt P nx P.length j h2
        rw [h3, h4, g3, g4, g5, g6, g7, g8]
        exact (h6V.s4.s3.upd (P.getD j prp0) (by rw [List.getD_eq_getElem?_getD, List.getElem?_eq_getElem hj]; exact List.getElem_mem _)).same
      · rw [h2] at g2; cases g2
    · rcases h6V.fw with ⟨ab', g1, g2⟩ | ⟨_, j', g2, _⟩ | ⟨_, g2, rfl, rfl, rfl, g3⟩
      · rw [g1] at h1; cases h1
      · rw [h2] at g2; cases g2
      · subst h3
        exact ⟨[], remL ks lvs (mkMs zs), by simp, by have := remL_len ks lvs (mkMs zs); rw [mkMs_len] at this; omega, ⟨rfl, .inl ⟨rfl, rfl⟩⟩, ⟨rfl, .inl ⟨rfl, rfl⟩⟩, own_kept h4 hB.kept (fun b c _ hc => q2 _ _ _ (show Blk wx b 33 c from hc) (by decide)), g3⟩
  obtain ⟨N1, sv, E, g1, g2, g3, g4, g5, g6, g7⟩ := hB.ex
  refine ⟨sv, N1, E, h6V, osV, hsame, ?_, hB.bU, g1.hN, g3, ?_, g4, ?_, g5, own_base g6 (Nat.zero_le _), g7, hB.mp, ?_, ⟨_, (h.bO.kept hk (h.bO.ne h.bN (by decide))).kept hB.kept (.inr ⟨h.bO.ne h.bN (by decide), fun c' hc => ?_⟩)⟩⟩
  · exact hB.bR
  · rw [g2 34 (by decide) (by decide) (by decide) (by decide), ← hfb]
    rcases hw with ⟨ab, rfl, _, rfl⟩ | ⟨h1, ⟨j, h2, _⟩, rfl⟩ | ⟨h1, h2, _, _, rfl⟩
    · rfl
    · rw [h2]; simp; rfl
    · rw [h1, h2]; rfl
  · rw [g2 63 (by decide) (by decide) (by decide) (by decide), way_N hw 63 (by decide)]
    rfl
  · have e1 := h.bO.lt
    have e2 := hB.hrb
    have e3 := hk.size
    omega
  · have := (show wx.heap[OB]? = _ from h.bO.kept hk (h.bO.ne h.bN (by decide))).symm.trans hc
    simp at this
end Go.Proofs.Ybulkcdnw
