/-
  The law Proposes: suspects and leaves.
-/
import Derived.Test.YbulkcdnwA16
namespace Go.Proofs.Ybulkcdnw
open Go.RowKit
set_option maxRecDepth 100000
set_option linter.unusedSimpArgs false
set_option linter.unusedVariables false

/-- The names of those among the first k that f picks. -/
def pickL (f : ZM → Bool) (zs : List ZM) (k : Nat) : List (ByteArray × Int) := ((List.range k).filter fun i => f (zs.getD i zm0)).map fun i => (nmS i, (zs.getD i zm0).inc)
theorem pickL_succ (f : ZM → Bool) (zs : List ZM) (k : Nat) : pickL f zs (k + 1) = pickL f zs k ++ (if f (zs.getD k zm0) = true then [(nmS k, (zs.getD k zm0).inc)] else []) := by
  unfold pickL
  rw [List.range_succ, List.filter_append, List.map_append]
  congr 1
  by_cases h : f (zs.getD k zm0) = true
  · rw [if_pos h]; simp only [List.filter_cons, List.filter_nil]; rw [if_pos h]; rfl
  · rw [if_neg h]; simp only [List.filter_cons, List.filter_nil]; rw [if_neg h]; rfl
theorem pickL_len (f : ZM → Bool) (zs : List ZM) (k : Nat) : (pickL f zs k).length ≤ k := by
  unfold pickL
  rw [List.length_map]
  exact Nat.le_trans (List.length_filter_le _ _) (by simp)
theorem pickL_has (f : ZM → Bool) (zs : List ZM) (k j : Nat) (hk : k ≤ 300) (hj : j < 300) : hasK (pickL f zs k) (nmS j, (zs.getD j zm0).inc) = (decide (j < k) && f (zs.getD j zm0)) := by
  rw [Bool.eq_iff_iff]
  simp only [hasK, pickL, List.any_eq_true, List.mem_map, List.mem_filter, List.mem_range, sameId, Bool.and_eq_true, decide_eq_true_eq, beq_iff_eq]
  constructor
  · rintro ⟨_, ⟨i, ⟨h1, h2⟩, rfl⟩, h3, h4⟩
    have := nm_inj (by omega) (by omega) h3
    subst this
    exact ⟨h1, h2⟩
  · rintro ⟨h1, h2⟩
    exact ⟨_, ⟨j, ⟨h1, h2⟩, rfl⟩, rfl, rfl⟩
def zsus (z : ZM) : Bool := z.sus
def zlea (z : ZM) : Bool := z.lea
/-- Whether there is one. -/
def flg (zs : List ZM) (k : Nat) : Bool := (List.range k).any fun i => (zs.getD i zm0).sus || (zs.getD i zm0).lea
theorem flg_succ (zs : List ZM) (k : Nat) : flg zs (k + 1) = (flg zs k || ((zs.getD k zm0).sus || (zs.getD k zm0).lea)) := by
  unfold flg
  rw [List.range_succ, List.any_append]
  simp
theorem flg_none {zs : List ZM} {k : Nat} (h : flg zs k = false) : pickL zsus zs k = [] := by
  simp only [flg, List.any_eq_false, List.mem_range] at h
  unfold pickL
  rw [List.filter_eq_nil_iff.2 (fun i hi => ?_)]
  · rfl
  · have := h i (List.mem_range.1 hi)
    simp [zsus] at this ⊢
    exact this.1
/-- The suspects in the end. -/
def ksF (fb : Bool) (zs : List ZM) : List (ByteArray × Int) := if (!fb && !flg zs zs.length) = true then [(nmS 0, (zs.getD 0 zm0).inc)] else pickL zsus zs zs.length
theorem rem_ne {zs : List ZM} (h0 : 0 < zs.length) (hl : zs.length ≤ 300) : 0 < (remL (ksF false zs) (pickL zlea zs zs.length) (mkMs zs)).length := by
  have key : ∃ i, i < zs.length ∧ (hasK (ksF false zs) (nmS i, (zs.getD i zm0).inc) || hasK (pickL zlea zs zs.length) (nmS i, (zs.getD i zm0).inc)) = true := by
    unfold ksF
    by_cases h : flg zs zs.length = true
    · rw [if_neg (by simp [h])]
      simp only [flg, List.any_eq_true, List.mem_range] at h
      obtain ⟨i, hi, hs⟩ := h
      refine ⟨i, hi, ?_⟩
      rw [pickL_has _ _ _ _ (by omega) (by omega), pickL_has _ _ _ _ (by omega) (by omega)]
      simpa [hi, zsus, zlea] using hs
    · rw [if_pos (by simp [h])]
      exact ⟨0, h0, by simp [hasK, sameId]⟩
  obtain ⟨i, hi, hs⟩ := key
  have hm : memOf i (zs.getD i zm0) ∈ mkMs zs := List.mem_map.2 ⟨i, List.mem_range.2 hi, rfl⟩
  unfold remL
  rw [List.length_map]
  exact List.length_pos_of_mem (List.mem_filter.2 ⟨hm, hs⟩)

theorem S4.kept {p : Nat → Prop} {w wx w' : World} {MB SB PB WB : Nat} {am : Option Addr} {zs : List ZM} {me : Mem} {P : List Prp} {apx : Option Addr} {oa : Option Addr} {na ca : Nat} {ob : Option Addr} {nr cr : Nat} (h : S4 w wx MB SB PB WB am zs me P apx oa na ca ob nr cr) (k : Kept p wx w') (hp : ∀ b, b ≤ WB → p b) (hq : ∀ b t c, Blk wx b t c → t < 51 → p b) : S4 w w' MB SB PB WB am zs me P apx oa na ca ob nr cr := by
  have l1 := h.le
  have l2 := h.s3.le
  obtain ⟨A, h1, h2⟩ := h.s3.bP
  have nz : ∀ b c, Blk wx b 35 c ∨ Blk wx b 33 c → p b := fun b c hb => by
    rcases hb with hb | hb
    · exact hq _ _ _ hb (by decide)
    · exact hq _ _ _ hb (by decide)
  refine ⟨⟨h.s3.s2.kept k (fun b hb => hp b (by omega)), ⟨A, h1.kept k (hp _ (by omega)), h2⟩, fun p hp => (h.s3.upd p hp).kept k nz, h.s3.le⟩, fun a e => ?_, h.bW.kept k (hp _ (Nat.le_refl _)), h.le, h.lt⟩
  obtain ⟨ab, x1, x2, x3, x4, x5, x6, rfl, g1, g2, g3⟩ := h.ah a e
  exact ⟨ab, x1, x2, x3, x4, x5, x6, rfl, g1.kept k (hq _ _ _ g1 (by decide)), g2.kept k nz, g3⟩
theorem FW.kept {p : Nat → Prop} {wx w' : World} {apx : Option Addr} {P : List Prp} {nx : Int} {oa : Option Addr} {na ca : Nat} {ob : Option Addr} {nr cr : Nat} (h : FW wx apx P nx oa na ca ob nr cr) (k : Kept p wx w') (hq : ∀ b t c, Blk wx b t c → t < 51 → p b) : FW w' apx P nx oa na ca ob nr cr := by
  rcases h with ⟨ab, h1, h2⟩ | h | h
  · exact .inl ⟨ab, h1, h2.kept k (hq _ _ _ h2 (by decide))⟩
  · exact .inr (.inl h)
  · exact .inr (.inr h)

/-- The loop that gathers suspects and leaves. -/
structure LI (w wr : World) (XB : Nat) (v : Value) (ks lvs : List (ByteArray × Int)) : Prop where
  kept : Kept (fun k => k ≠ XB) w wr
  mp : Mp wr XB ks
  own : wr.ownsRow w.heap.size 33 2 v lvs.length (idCells lvs)
theorem LI.map {w wr : World} {XB : Nat} {v : Value} {ks lvs : List (ByteArray × Int)} (h : LI w wr XB v ks lvs) (ks' : List (ByteArray × Int)) : LI w (World.mapSet wr XB ks') XB v ks' lvs :=
  ⟨kept_mapSet h.kept (by simp) _, h.mp.set, own_kept h.own (kept_mapSet (Kept.refl (fun k => k ≠ XB) wr) (by simp) _) (fun b c _ hc => (h.mp.ne (show Blk wr b 33 c from hc)).symm)⟩
theorem LI.app {w wr w2 : World} {XB : Nat} {v v2 : Value} {ks lvs : List (ByteArray × Int)} {m : ByteArray × Int} {o : Obj} (h : LI w wr XB v ks lvs) (hx : XB < w.heap.size) (ho : w2.ownsRow w.heap.size 33 2 v2 (lvs.length + 1) (idCells lvs ++ [.string m.1, .int .u64 m.2])) (hg : (wr.alloc o).grownBy w2 v.ownBlock) : LI w w2 XB v2 ks (lvs ++ [m]) := by
  have K0 : Kept (fun k => k < w.heap.size) (wr.alloc o) w2 := (Kept.refl _ _).grown hg (fun k hk _ hlt => by have := own_ge h.own k hk; omega)
  refine ⟨?_, ?_, ?_⟩
  · exact (h.kept.alloc o).grown hg (fun k hk hlt _ => by have := own_ge h.own k hk; omega)
  · exact (h.mp.kept ((Kept.refl (fun _ => True) wr).alloc o) trivial).kept K0 hx
  · rw [idCells_snoc, List.length_append]; exact ho
theorem SI.app {w wr w2 : World} {v v2 : Value} {l : List (ByteArray × Int)} {m : ByteArray × Int} {o : Obj} (h : SI w wr v l) (ho : w2.ownsRow w.heap.size 33 2 v2 (l.length + 1) (idCells l ++ [.string m.1, .int .u64 m.2])) (hg : (wr.alloc o).grownBy w2 v.ownBlock) : SI w w2 v2 (l ++ [m]) := by
  refine ⟨?_, ?_⟩
  · rw [idCells_snoc, List.length_append]; exact ho
  · exact (h.kept.alloc o).grown hg (fun k hk hlt _ => by have := own_ge h.own k hk; omega)
/-- The loop that gathers names. -/
structure LR (w wr : World) (WB : Nat) (v : Value) (l : List (ByteArray × Int)) : Prop where
  kept : Kept (fun k => k ≠ WB) w wr
  bW : Blk wr WB 39 #[.slice none 0 0, v]
  own : wr.ownsRow w.heap.size 33 2 v l.length (idCells l)
theorem LR.app {w wr w2 : World} {WB : Nat} {v v2 : Value} {l : List (ByteArray × Int)} {m : ByteArray × Int} {o : Obj} (h : LR w wr WB v l) (hx : WB < w.heap.size) (ho : w2.ownsRow w.heap.size 33 2 v2 (l.length + 1) (idCells l ++ [.string m.1, .int .u64 m.2])) (hg : (wr.alloc o).grownBy w2 v.ownBlock) : Blk w2 WB 39 #[.slice none 0 0, v] ∧ LR w (w2.setCell ⟨WB, 1, none⟩ v2) WB v2 (l ++ [m]) := by
  have b1 : Blk w2 WB 39 #[.slice none 0 0, v] := (h.bW.alloc o).grown hg (fun e => by have := own_ge h.own _ e; omega)
  refine ⟨b1, ?_, b1.set 1 v2, ?_⟩
  · exact ((h.kept.alloc o).grown hg (fun k hk hlt _ => by have := own_ge h.own k hk; omega)).setCell (q := ⟨WB, 1, none⟩) (by simp) _
  · rw [idCells_snoc, List.length_append]
    exact ownsRow_setCell_other ho (own_apart ho b1 (by decide)) _
/-- Where the wanted update is from, in the end. -/
def FW6 (wx : World) (apx : Option Addr) (P : List Prp) (nx : Int) (ks lvs : List (ByteArray × Int)) (ms : List Mem) (oa : Option Addr) (na ca : Nat) (ob : Option Addr) (nr cr : Nat) : Prop :=
  (∃ ab, apx = some ⟨ab, 0, none⟩ ∧ Blk wx ab 39 #[.slice oa na ca, .slice ob nr cr]) ∨
  (apx = none ∧ ∃ j, bst P nx P.length = some j ∧ oa = (P.getD j prp0).oa ∧ na = (P.getD j prp0).na ∧ ca = (P.getD j prp0).ca ∧ ob = (P.getD j prp0).ob ∧ nr = (P.getD j prp0).nr ∧ cr = (P.getD j prp0).cr) ∨
  (apx = none ∧ bst P nx P.length = none ∧ oa = none ∧ na = 0 ∧ ca = 0 ∧ OwnI wx (.slice ob nr cr) (remL ks lvs ms))
/-- All that is laid ahead of the node. -/
structure S6 (w wx : World) (MB SB PB WB XB : Nat) (am : Option Addr) (zs : List ZM) (me : Mem) (P : List Prp) (apx : Option Addr) (nx : Int) (oa : Option Addr) (na ca : Nat) (ob : Option Addr) (nr cr : Nat) (ks lvs : List (ByteArray × Int)) (lv : Value) : Prop where
  s4 : S4 w wx MB SB PB WB am zs me P apx oa na ca ob nr cr
  fw : FW6 wx apx P nx ks lvs (mkMs zs) oa na ca ob nr cr
  mp : Mp wx XB ks
  ol : OwnI wx lv lvs
  le : WB < XB
theorem S6.kept {p : Nat → Prop} {w wx w' : World} {MB SB PB WB XB : Nat} {am : Option Addr} {zs : List ZM} {me : Mem} {P : List Prp} {apx : Option Addr} {nx : Int} {oa : Option Addr} {na ca : Nat} {ob : Option Addr} {nr cr : Nat} {ks lvs : List (ByteArray × Int)} {lv : Value} (h : S6 w wx MB SB PB WB XB am zs me P apx nx oa na ca ob nr cr ks lvs lv) (k : Kept p wx w') (hp : ∀ b, b ≤ WB → p b) (hq : ∀ b t c, Blk wx b t c → t < 51 → p b) (hx : p XB) : S6 w w' MB SB PB WB XB am zs me P apx nx oa na ca ob nr cr ks lvs lv := by
  refine ⟨h.s4.kept k hp hq, ?_, h.mp.kept k hx, own_kept h.ol k (fun b c _ hc => hq _ _ _ (show Blk wx b 33 c from hc) (by decide)), h.le⟩
  rcases h.fw with ⟨ab, h1, h2⟩ | h | ⟨h1, h2, h3, h4, h5, h6⟩
  · exact .inl ⟨ab, h1, h2.kept k (hq _ _ _ h2 (by decide))⟩
  · exact .inr (.inl h)
  · exact .inr (.inr ⟨h1, h2, h3, h4, h5, own_kept h6 k (fun b c _ hc => hq _ _ _ (show Blk wx b 33 c from hc) (by decide))⟩)
theorem S6.later {w wx w' : World} {MB SB PB WB XB : Nat} {am : Option Addr} {zs : List ZM} {me : Mem} {P : List Prp} {apx : Option Addr} {nx : Int} {oa : Option Addr} {na ca : Nat} {ob : Option Addr} {nr cr : Nat} {ks lvs : List (ByteArray × Int)} {lv : Value} (h : S6 w wx MB SB PB WB XB am zs me P apx nx oa na ca ob nr cr ks lvs lv) (k : Kept (fun _ => True) wx w') : S6 w w' MB SB PB WB XB am zs me P apx nx oa na ca ob nr cr ks lvs lv :=
  h.kept k (fun _ _ => trivial) (fun _ _ _ _ _ => trivial) trivial
/-- Ahead of the names to be removed. -/
structure S5 (w wx : World) (MB SB PB WB XB : Nat) (am : Option Addr) (zs : List ZM) (me : Mem) (P : List Prp) (apx : Option Addr) (nx : Int) (oa : Option Addr) (na ca : Nat) (ob : Option Addr) (nr cr : Nat) (ks lvs : List (ByteArray × Int)) (lv : Value) : Prop where
  s4 : S4 w wx MB SB PB WB am zs me P apx oa na ca ob nr cr
  fw : FW wx apx P nx oa na ca ob nr cr
  mp : Mp wx XB ks
  ol : OwnI wx lv lvs
  le : WB < XB
theorem s5_of {w W10 wx : World} {MB SB PB WB XB : Nat} {am : Option Addr} {zs : List ZM} {me : Mem} {P : List Prp} {apx : Option Addr} {nx : Int} {oa : Option Addr} {na ca : Nat} {ob : Option Addr} {nr cr : Nat} {ks0 ks lvs : List (ByteArray × Int)} {lv : Value} (h : S4 w W10 MB SB PB WB am zs me P apx oa na ca ob nr cr ∧ FW W10 apx P nx oa na ca ob nr cr ∧ Mp W10 XB ks0 ∧ WB < XB ∧ XB < W10.heap.size) (hi : LI W10 wx XB lv ks lvs) : S5 w wx MB SB PB WB XB am zs me P apx nx oa na ca ob nr cr ks lvs lv :=
  ⟨h.1.kept hi.kept (fun b hb => by have := h.2.2.2.1; omega) (fun b t c hb _ => (h.2.2.1.ne hb).symm), h.2.1.kept hi.kept (fun b t c hb _ => (h.2.2.1.ne hb).symm), hi.mp, own_base hi.own (Nat.zero_le _), h.2.2.2.1⟩
theorem s6_found {w wx : World} {MB SB PB WB XB : Nat} {am : Option Addr} {zs : List ZM} {me : Mem} {P : List Prp} {apx : Option Addr} {nx : Int} {oa : Option Addr} {na ca : Nat} {ob : Option Addr} {nr cr : Nat} {ks lvs : List (ByteArray × Int)} {lv : Value} (h : S5 w wx MB SB PB WB XB am zs me P apx nx oa na ca ob nr cr ks lvs lv) (hf : (!(apx.isNone && (bst P nx P.length).isNone)) = true) : S6 w wx MB SB PB WB XB am zs me P apx nx oa na ca ob nr cr ks lvs lv := by
  refine ⟨h.s4, ?_, h.mp, h.ol, h.le⟩
  rcases h.fw with h | h | ⟨h1, h2, _⟩
  · exact .inl h
  · exact .inr (.inl h)
  · rw [h1, h2] at hf; simp at hf
theorem s5_not {w wx : World} {MB SB PB WB XB : Nat} {am : Option Addr} {zs : List ZM} {me : Mem} {P : List Prp} {apx : Option Addr} {nx : Int} {oa : Option Addr} {na ca : Nat} {ob : Option Addr} {nr cr : Nat} {ks lvs : List (ByteArray × Int)} {lv : Value} (h : S5 w wx MB SB PB WB XB am zs me P apx nx oa na ca ob nr cr ks lvs lv) (hf : (!(apx.isNone && (bst P nx P.length).isNone)) = false) : apx = none ∧ bst P nx P.length = none ∧ oa = none ∧ na = 0 ∧ ca = 0 ∧ ob = none ∧ nr = 0 ∧ cr = 0 := by
  rcases h.fw with ⟨ab, rfl, _⟩ | ⟨h1, j, h2, _⟩ | h
  · simp at hf
  · rw [h2] at hf; simp at hf
  · exact h
theorem s6_rem {w W12 wx : World} {MB SB PB WB XB : Nat} {am : Option Addr} {zs : List ZM} {me : Mem} {P : List Prp} {nx : Int} {ks lvs : List (ByteArray × Int)} {lv : Value} {ob : Option Addr} {nr cr : Nat} (h : S5 w W12 MB SB PB WB XB am zs me P none nx none 0 0 none 0 0 ks lvs lv) (hb : bst P nx P.length = none) (hi : LR W12 wx WB (.slice ob nr cr) (remL ks lvs (mkMs zs))) : S6 w wx MB SB PB WB XB am zs me P none nx none 0 0 ob nr cr ks lvs lv := by
  have K := hi.kept
  have nz : ∀ {b t c}, Blk W12 b t c → t ≠ 39 → b ≠ WB := fun hb hn => hb.ne h.s4.bW hn
  have l1 := h.s4.le
  have l2 := h.s4.s3.le
  have l3 := h.le
  obtain ⟨A, h1, h2⟩ := h.s4.s3.bP
  refine ⟨⟨⟨h.s4.s3.s2.kept K (fun b hb => by show b ≠ WB; omega), ⟨A, h1.kept K (by show PB ≠ WB; omega), h2⟩, fun p hp => (h.s4.s3.upd p hp).kept K (fun b c hb => ?_), h.s4.s3.le⟩, fun a e => (by cases e), hi.bW, h.s4.le, h.s4.lt⟩, .inr (.inr ⟨rfl, hb, rfl, rfl, rfl, own_base hi.own (Nat.zero_le _)⟩), h.mp.kept K (by show XB ≠ WB; omega), own_kept h.ol K (fun b c _ hc => nz (show Blk W12 b 33 c from hc) (by decide)), h.le⟩
  rcases hb with hb | hb
  · exact nz hb (by decide)
  · exact nz hb (by decide)
end Go.Proofs.Ybulkcdnw
