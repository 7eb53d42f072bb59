/-
  The law Proposes: what it is given.
-/
import Derived.Test.YbulkcdnwA15
import Derived.Test.YbulkcdnwPrp
namespace Go.Proofs.Ybulkcdnw
open Go.RowKit
set_option maxRecDepth 100000
set_option linter.unusedSimpArgs false
set_option linter.unusedVariables false

/-- A member as the law is given it. -/
structure ZM where
  inc : Int
  sus : Bool
  lea : Bool
def zm0 : ZM := ⟨0, false, false⟩
def MsB (w : World) (B : Nat) (am : Option Addr) (zs : List ZM) : Prop := ∀ k, k < zs.length → ∃ b off, am = some ⟨b, off, none⟩ ∧ b < B ∧ w.cell? ⟨b, off + k * 3, none⟩ = some (.int .u64 (zs.getD k zm0).inc) ∧ w.cell? ⟨b, off + k * 3 + 1, none⟩ = some (.bool (zs.getD k zm0).sus) ∧ w.cell? ⟨b, off + k * 3 + 2, none⟩ = some (.bool (zs.getD k zm0).lea)
def MsIn (w : World) (am : Option Addr) (zs : List ZM) : Prop := MsB w w.heap.size am zs
/-- A proposal as the law is given it. -/
structure ZP where
  off : Int
  rank : Int
  aa : Option Addr
  za : List Nat
  ca : Nat
  ab : Option Addr
  zb : List Nat
  cb : Nat
def zp0 : ZP := ⟨0, 0, none, [], 0, none, [], 0⟩
def PsIn (w : World) (ap : Option Addr) (ps : List ZP) : Prop := ∀ k, k < ps.length → (∃ b off, ap = some ⟨b, off, none⟩ ∧ b < w.heap.size ∧ w.cell? ⟨b, off + k * 4, none⟩ = some (.int .u8 (ps.getD k zp0).off) ∧ w.cell? ⟨b, off + k * 4 + 1, none⟩ = some (.int .i64 (ps.getD k zp0).rank) ∧
    w.cell? ⟨b, off + k * 4 + 2, none⟩ = some (.slice (ps.getD k zp0).aa (ps.getD k zp0).za.length (ps.getD k zp0).ca) ∧ w.cell? ⟨b, off + k * 4 + 3, none⟩ = some (.slice (ps.getD k zp0).ab (ps.getD k zp0).zb.length (ps.getD k zp0).cb)) ∧
    BytesIn w (ps.getD k zp0).aa (ps.getD k zp0).za ∧ BytesIn w (ps.getD k zp0).ab (ps.getD k zp0).zb ∧ (ps.getD k zp0).za.length ≤ 9223372036854775807 ∧ (ps.getD k zp0).zb.length ≤ 9223372036854775807 ∧ 0 ≤ (ps.getD k zp0).off ∧ (ps.getD k zp0).off ≤ 255

theorem msin_one (w : World) : MsIn (w.alloc (.cells #[.int .u64 0, .bool false, .bool false] 29)) (some ⟨w.heap.size, 0, none⟩) [zm0] := by
  intro k hk
  obtain rfl : k = 0 := by simpa using hk
  have h := Blk.new w 29 #[.int .u64 0, .bool false, .bool false]
  exact ⟨w.heap.size, 0, rfl, h.lt, h.cell 0, h.cell 1, h.cell 2⟩
/-- The members that the law makes. -/
def memOf (i : Nat) (z : ZM) : Mem := ⟨nmS i, z.inc, adS i, ⟨#[]⟩⟩
def mkMs (zs : List ZM) : List Mem := (List.range zs.length).map fun i => memOf i (zs.getD i zm0)
theorem mkMs_len (zs : List ZM) : (mkMs zs).length = zs.length := by simp [mkMs]
theorem mkMs_at (zs : List ZM) {k : Nat} (hk : k < zs.length) : (mkMs zs).getD k mem0 = memOf k (zs.getD k zm0) := by
  simp [mkMs, List.getD, hk]
theorem mkMs_dis (zs : List ZM) (hl : zs.length ≤ 300) : ∀ i j, i < (mkMs zs).length → j < (mkMs zs).length → ((mkMs zs).getD i mem0).nm.toList = ((mkMs zs).getD j mem0).nm.toList → i = j := by
  intro i j hi hj h
  rw [mkMs_len] at hi hj
  rw [mkMs_at zs hi, mkMs_at zs hj] at h
  exact nm_inj (by omega) (by omega) h

theorem fill_pre {W1 wr w1 : World} {L : List Value} (h : Below W1.heap.size W1 wr ∧ ∃ A, Blk wr W1.heap.size 35 A ∧ A.toList = L) (hb : Below wr.heap.size wr w1) : Below W1.heap.size W1 w1 ∧ ∃ A, Blk w1 W1.heap.size 35 A ∧ A.toList = L := by
  obtain ⟨h1, A, h2, h3⟩ := h
  exact ⟨h1.trans (hb.mono h1.size), A, h2.kept (kept_of_below hb) trivial, h3⟩

/-- The members are made. -/
structure S1 (w wx : World) (MB : Nat) (am : Option Addr) (zs : List ZM) : Prop where
  bel : Below w.heap.size w wx
  ms : MsB wx MB am zs
  mem : ∃ A, Blk wx MB 35 A ∧ A.toList = memCells (mkMs zs)
  le : w.heap.size ≤ MB
theorem MsB.kept {w w' : World} {p : Nat → Prop} {B : Nat} {am : Option Addr} {zs : List ZM} (h : MsB w B am zs) (hB : B ≤ w.heap.size) (k : Kept p w w') (hp : ∀ b, b < B → p b) : MsB w' B am zs := by
  intro i hi
  obtain ⟨b, off, h1, h2, h3, h4, h5⟩ := h i hi
  have e : ∀ j, w'.cell? ⟨b, j, none⟩ = w.cell? ⟨b, j, none⟩ := fun j => World.cell?_of_block (w := w) (k.block b (by omega) (hp b h2))
  exact ⟨b, off, h1, h2, (e _).trans h3, (e _).trans h4, (e _).trans h5⟩
theorem S1.mbl {w wx : World} {MB : Nat} {am : Option Addr} {zs : List ZM} (h : S1 w wx MB am zs) : MB < wx.heap.size := by
  obtain ⟨A, h1, _⟩ := h.mem
  exact h1.lt
theorem S1.kept {w wx w' : World} {p : Nat → Prop} {MB : Nat} {am : Option Addr} {zs : List ZM} (h : S1 w wx MB am zs) (k : Kept p wx w') (hp : ∀ b, b ≤ MB → p b) : S1 w w' MB am zs := by
  obtain ⟨A, h1, h2⟩ := h.mem
  have hm := h.mbl
  have hle := h.le
  refine ⟨⟨k.os.trans h.bel.os, k.tape.trans h.bel.tape, k.output.trans h.bel.output, Nat.le_trans h.bel.size k.size, fun j hj => (k.block j (by omega) (hp j (by omega))).trans (h.bel.block j hj)⟩, h.ms.kept (by omega) k (fun b hb => hp b (by omega)), ⟨A, h1.kept k (hp _ (Nat.le_refl _)), h2⟩, h.le⟩
theorem S1.later {w wx w' : World} {MB : Nat} {am : Option Addr} {zs : List ZM} (h : S1 w wx MB am zs) (hb : Below wx.heap.size wx w') : S1 w w' MB am zs := h.kept (kept_of_below hb) (fun _ _ => trivial)
theorem s1_of {w W1 W2 : World} {MB : Nat} {am : Option Addr} {zs : List ZM} (hMB : W1.heap.size = MB) (h : MsIn W1 am zs ∧ 0 < zs.length ∧ zs.length ≤ 300 ∧ Below w.heap.size w W1) (h2 : Below W1.heap.size W1 W2 ∧ ∃ A, Blk W2 W1.heap.size 35 A ∧ A.toList = memCells (mkMs zs)) : S1 w W2 MB am zs := by
  subst hMB
  exact ⟨h.2.2.2.trans (h2.1.mono h.2.2.2.size), MsB.kept h.1 (Nat.le_refl _) (kept_of_below h2.1) (fun _ _ => trivial), h2.2, h.2.2.2.size⟩

/-- The node itself is chosen. -/
structure S2 (w wx : World) (MB SB : Nat) (am : Option Addr) (zs : List ZM) (me : Mem) : Prop where
  s1 : S1 w wx MB am zs
  bS : Blk wx SB 35 #[.string me.nm, .int .u64 me.inc, .string me.ad, .string me.tk]
  le : MB < SB
theorem S2.set {w wx : World} {MB SB : Nat} {am : Option Addr} {zs : List ZM} {me : Mem} (h : S2 w wx MB SB am zs me) (m : Mem) :
    S2 w ((((wx.setCell ⟨SB, 0, none⟩ (.string m.nm)).setCell ⟨SB, 1, none⟩ (.int .u64 m.inc)).setCell ⟨SB, 2, none⟩ (.string m.ad)).setCell ⟨SB, 3, none⟩ (.string m.tk)) MB SB am zs m := by
  have K : Kept (fun k => k ≠ SB) wx ((((wx.setCell ⟨SB, 0, none⟩ (.string m.nm)).setCell ⟨SB, 1, none⟩ (.int .u64 m.inc)).setCell ⟨SB, 2, none⟩ (.string m.ad)).setCell ⟨SB, 3, none⟩ (.string m.tk)) :=
    ((((Kept.refl _ wx).setCell (q := ⟨SB, 0, none⟩) (by simp) _).setCell (q := ⟨SB, 1, none⟩) (by simp) _).setCell (q := ⟨SB, 2, none⟩) (by simp) _).setCell (q := ⟨SB, 3, none⟩) (by simp) _
  have hle := h.le
  exact ⟨h.s1.kept K (fun b hb => by show b ≠ SB; omega), (((h.bS.set 0 _).set 1 _).set 2 _).set 3 _, h.le⟩
theorem S2.kept {w wx w' : World} {p : Nat → Prop} {MB SB : Nat} {am : Option Addr} {zs : List ZM} {me : Mem} (h : S2 w wx MB SB am zs me) (k : Kept p wx w') (hp : ∀ b, b ≤ SB → p b) : S2 w w' MB SB am zs me := by
  have hle := h.le
  exact ⟨h.s1.kept k (fun b hb => hp b (by omega)), h.bS.kept k (hp _ (Nat.le_refl _)), h.le⟩
theorem S2.later {w wx w' : World} {MB SB : Nat} {am : Option Addr} {zs : List ZM} {me : Mem} (h : S2 w wx MB SB am zs me) (hb : Below wx.heap.size wx w') : S2 w w' MB SB am zs me := h.kept (kept_of_below hb) (fun _ _ => trivial)

theorem BytesIn.later {w w' : World} {ao : Option Addr} {zs : List Nat} (h : BytesIn w ao zs) (hb : Below w.heap.size w w') : BytesIn w' ao zs := by
  intro k hk
  obtain ⟨b, off, h1, h2, h3, h4⟩ := h k hk
  exact ⟨b, off, h1, Nat.lt_of_lt_of_le h2 hb.size, (hb.cell (p := ⟨b, off + k, none⟩) h2).trans h3, h4⟩
/-- An update with whatever content. -/
def UpdOk (w : World) (va vr : Value) : Prop := ∃ (ms : List Mem) (l : List (ByteArray × Int)), ms.length ≤ 300 ∧ l.length ≤ 300 ∧ OwnM w va ms ∧ OwnI w vr l
theorem UpdOk.kept {w w' : World} {p : Nat → Prop} {va vr : Value} (h : UpdOk w va vr) (k : Kept p w w') (hp : ∀ b c, Blk w b 35 c ∨ Blk w b 33 c → p b) : UpdOk w' va vr := by
  obtain ⟨ms, l, h1, h2, h3, h4⟩ := h
  exact ⟨ms, l, h1, h2, own_kept h3 k (fun b c _ hc => hp b c (.inl hc)), own_kept h4 k (fun b c _ hc => hp b c (.inr hc))⟩
/-- The proposals are made, as far as P goes; r are left. -/
structure S3 (w wx : World) (MB SB PB : Nat) (am : Option Addr) (zs : List ZM) (me : Mem) (P : List Prp) (r : Nat) : Prop where
  s2 : S2 w wx MB SB am zs me
  bP : ∃ A, Blk wx PB 42 A ∧ A.toList = prpCells (P ++ List.replicate r prp0)
  upd : ∀ p ∈ P, UpdOk wx (.slice p.oa p.na p.ca) (.slice p.ob p.nr p.cr)
  le : SB < PB
theorem s3_start {w W4 : World} {MB SB : Nat} {am : Option Addr} {zs : List ZM} {me : Mem} {n : Nat} (h : S2 w W4 MB SB am zs me) : S3 w (W4.alloc (.cells (made42 n) 42)) MB SB W4.heap.size am zs me [] n :=
  ⟨h.later ((Below.refl _ _).alloc (Nat.le_refl _) _), ⟨_, Blk.new _ _ _, by simpa using made42_toList n⟩, fun p hp => (by cases hp), h.bS.lt⟩
theorem S3.later {w wx w' : World} {MB SB PB : Nat} {am : Option Addr} {zs : List ZM} {me : Mem} {P : List Prp} {r : Nat} (h : S3 w wx MB SB PB am zs me P r) (hb : Below wx.heap.size wx w') : S3 w w' MB SB PB am zs me P r := by
  obtain ⟨A, h1, h2⟩ := h.bP
  have K := kept_of_below hb
  exact ⟨h.s2.later hb, ⟨A, h1.kept K trivial, h2⟩, fun p hp => (h.upd p hp).kept K (fun _ _ _ => trivial), h.le⟩

theorem s3_frozen {w wx : World} {MB SB PB : Nat} {am : Option Addr} {zs : List ZM} {me : Mem} {P : List Prp} {r : Nat} (h : S3 w wx MB SB PB am zs me P r) (j : Nat) : wx.frozen? ⟨PB, j, none⟩ = false := by
  obtain ⟨A, h1, _⟩ := h.bP
  exact h1.frozen j

theorem s3_step {w w1 : World} {MB SB PB : Nat} {am : Option Addr} {zs : List ZM} {me : Mem} {P : List Prp} {p : Prp} {n k : Nat} (hP : P.length = k) (hk : k < n) (h : S3 w w1 MB SB PB am zs me P (n - k)) (hu : UpdOk w1 (.slice p.oa p.na p.ca) (.slice p.ob p.nr p.cr)) :
    S3 w ((((w1.setCell ⟨PB, k * 4, none⟩ (.int .u64 p.num)).setCell ⟨PB, k * 4 + 1, none⟩ (.slice p.oa p.na p.ca)).setCell ⟨PB, k * 4 + 2, none⟩ (.slice p.ob p.nr p.cr)).setCell ⟨PB, k * 4 + 3, none⟩ (.int .i64 p.rank)) MB SB PB am zs me (P ++ [p]) (n - (k + 1)) := by
  obtain ⟨A, hA, hAt⟩ := h.bP
  have K : Kept (fun j => j ≠ PB) w1 ((((w1.setCell ⟨PB, k * 4, none⟩ (.int .u64 p.num)).setCell ⟨PB, k * 4 + 1, none⟩ (.slice p.oa p.na p.ca)).setCell ⟨PB, k * 4 + 2, none⟩ (.slice p.ob p.nr p.cr)).setCell ⟨PB, k * 4 + 3, none⟩ (.int .i64 p.rank)) :=
    ((((Kept.refl _ w1).setCell (q := ⟨PB, k * 4, none⟩) (by simp) _).setCell (q := ⟨PB, k * 4 + 1, none⟩) (by simp) _).setCell (q := ⟨PB, k * 4 + 2, none⟩) (by simp) _).setCell (q := ⟨PB, k * 4 + 3, none⟩) (by simp) _
  have hle := h.le
  have nz : ∀ b c, Blk w1 b 35 c ∨ Blk w1 b 33 c → b ≠ PB := fun b c hb => by
    rcases hb with hb | hb
    · exact hb.ne hA (by decide)
    · exact hb.ne hA (by decide)
  have hlen : (P ++ p :: List.replicate (n - (k + 1)) prp0).length = n := by simp; omega
  have htk : (P ++ p :: List.replicate (n - (k + 1)) prp0).take k = P := by rw [← hP, List.take_left']; rfl
  obtain ⟨A2, r1, r2⟩ := fill_roundP (w := w1) (wr := w1) (m := p) (P := P ++ p :: List.replicate (n - (k + 1)) prp0) (k := k) (by omega) hA (by rw [htk, hlen]; exact hAt) (by rw [List.getD_eq_getElem?_getD, List.getElem?_append_right (by omega), hP]; simp)
  refine ⟨h.s2.kept K (fun b hb => by show b ≠ PB; omega), ⟨A2, r1, ?_⟩, fun x hx => ?_, h.le⟩
  · rw [r2, hlen]
    congr 2
    rw [show P ++ p :: List.replicate (n - (k + 1)) prp0 = (P ++ [p]) ++ List.replicate (n - (k + 1)) prp0 from by simp, List.take_left' (by simp [hP])]
  · rcases List.mem_append.1 hx with hx | hx
    · exact (h.upd x hx).kept K nz
    · obtain rfl := List.mem_singleton.1 hx
      exact hu.kept K nz

/-- The update ahead, if there is one. -/
def AH (wx : World) (PB : Nat) (apx : Option Addr) : Prop := ∀ a, apx = some a → ∃ ab oa na ca ob nr cr, a = ⟨ab, 0, none⟩ ∧ Blk wx ab 39 #[.slice oa na ca, .slice ob nr cr] ∧ UpdOk wx (.slice oa na ca) (.slice ob nr cr) ∧ PB < ab
theorem AH.later {w w' : World} {PB : Nat} {apx : Option Addr} (h : AH w PB apx) (hb : Below w.heap.size w w') : AH w' PB apx := by
  intro a ha
  obtain ⟨ab, oa, na, ca, ob, nr, cr, h1, h2, h3, h4⟩ := h a ha
  exact ⟨ab, oa, na, ca, ob, nr, cr, h1, h2.kept (kept_of_below hb) trivial, h3.kept (kept_of_below hb) (fun _ _ _ => trivial), h4⟩
theorem ah_new {w w1 : World} {MB SB PB : Nat} {am : Option Addr} {zs : List ZM} {me : Mem} {P : List Prp} {r : Nat} {oa ob : Option Addr} {na ca nr cr : Nat} (h : S3 w w1 MB SB PB am zs me P r) (hu : UpdOk w1 (.slice oa na ca) (.slice ob nr cr)) :
    S3 w (w1.alloc (.cells #[.slice oa na ca, .slice ob nr cr] 39)) MB SB PB am zs me P r ∧ AH (w1.alloc (.cells #[.slice oa na ca, .slice ob nr cr] 39)) PB (some ⟨w1.heap.size, 0, none⟩) := by
  have hb : Below w1.heap.size w1 (w1.alloc (.cells #[.slice oa na ca, .slice ob nr cr] 39)) := (Below.refl _ _).alloc (Nat.le_refl _) _
  refine ⟨h.later hb, fun a ha => ?_⟩
  cases ha
  obtain ⟨A, h1, _⟩ := h.bP
  exact ⟨_, oa, na, ca, ob, nr, cr, rfl, Blk.new _ _ _, hu.kept (kept_of_below hb) (fun _ _ _ => trivial), h1.lt⟩

/-- The update that is wanted: block WB. -/
structure S4 (w wx : World) (MB SB PB WB : Nat) (am : Option Addr) (zs : List ZM) (me : Mem) (P : List Prp) (apx : Option Addr) (oa : Option Addr) (na ca : Nat) (ob : Option Addr) (nr cr : Nat) : Prop where
  s3 : S3 w wx MB SB PB am zs me P 0
  ah : AH wx PB apx
  bW : Blk wx WB 39 #[.slice oa na ca, .slice ob nr cr]
  le : PB < WB
  lt : ∀ a, apx = some a → a.block < WB
theorem s4_start {w W7 : World} {MB SB PB : Nat} {am : Option Addr} {zs : List ZM} {me : Mem} {P : List Prp} {apx : Option Addr} (h : S3 w W7 MB SB PB am zs me P 0) (ha : AH W7 PB apx) : S4 w (W7.alloc (.cells #[.slice none 0 0, .slice none 0 0] 39)) MB SB PB W7.heap.size am zs me P apx none 0 0 none 0 0 := by
  have hb : Below W7.heap.size W7 (W7.alloc (.cells #[.slice none 0 0, .slice none 0 0] 39)) := (Below.refl _ _).alloc (Nat.le_refl _) _
  obtain ⟨A, h1, _⟩ := h.bP
  refine ⟨h.later hb, ha.later hb, Blk.new _ _ _, h1.lt, fun a e => ?_⟩
  obtain ⟨ab, _, _, _, _, _, _, rfl, h2, _⟩ := ha a e
  exact h2.lt
theorem S4.set {w wx : World} {MB SB PB WB : Nat} {am : Option Addr} {zs : List ZM} {me : Mem} {P : List Prp} {apx : Option Addr} {oa : Option Addr} {na ca : Nat} {ob : Option Addr} {nr cr : Nat} (h : S4 w wx MB SB PB WB am zs me P apx oa na ca ob nr cr) (oa' : Option Addr) (na' ca' : Nat) (ob' : Option Addr) (nr' cr' : Nat) :
    S4 w ((wx.setCell ⟨WB, 0, none⟩ (.slice oa' na' ca')).setCell ⟨WB, 1, none⟩ (.slice ob' nr' cr')) MB SB PB WB am zs me P apx oa' na' ca' ob' nr' cr' := by
  have K : Kept (fun j => j ≠ WB) wx ((wx.setCell ⟨WB, 0, none⟩ (.slice oa' na' ca')).setCell ⟨WB, 1, none⟩ (.slice ob' nr' cr')) := ((Kept.refl _ wx).setCell (q := ⟨WB, 0, none⟩) (by simp) _).setCell (q := ⟨WB, 1, none⟩) (by simp) _
  have nz : ∀ b c, Blk wx b 35 c ∨ Blk wx b 33 c → b ≠ WB := fun b c hb => by
    rcases hb with hb | hb
    · exact hb.ne h.bW (by decide)
    · exact hb.ne h.bW (by decide)
  obtain ⟨A, h1, h2⟩ := h.s3.bP
  have l1 := h.le
  have l2 := h.s3.le
  refine ⟨⟨h.s3.s2.kept K (fun b hb => by show b ≠ WB; omega), ⟨A, h1.kept K (by show PB ≠ WB; omega), h2⟩, fun p hp => (h.s3.upd p hp).kept K nz, h.s3.le⟩, fun a e => ?_, (h.bW.set 0 _).set 1 _, h.le, h.lt⟩
  obtain ⟨ab, x1, x2, x3, x4, x5, x6, rfl, g1, g2, g3⟩ := h.ah a e
  exact ⟨ab, x1, x2, x3, x4, x5, x6, rfl, g1.kept K (by have := h.lt _ e; show ab ≠ WB; simp at this; omega), g2.kept K nz, g3⟩
theorem s4_other {w wx : World} {MB SB PB WB ab : Nat} {am : Option Addr} {zs : List ZM} {me : Mem} {P : List Prp} {oa : Option Addr} {na ca : Nat} {ob : Option Addr} {nr cr : Nat} {c : Array Value} {v1 v2 : Value} (h : S4 w wx MB SB PB WB am zs me P (some ⟨ab, 0, none⟩) oa na ca ob nr cr) (hb : Blk wx ab 39 c) : Blk ((wx.setCell ⟨WB, 0, none⟩ v1).setCell ⟨WB, 1, none⟩ v2) ab 39 c := by
  have hl := h.lt _ rfl
  simp at hl
  exact (hb.setOther (by show ab ≠ WB; omega) _).setOther (by show ab ≠ WB; omega) _
theorem Below.drewN {n : Nat} {w w' : World} (h : Below n w w') (m : Nat) : Below n w (w'.drewN m) := ⟨h.os, h.tape, h.output, h.size, h.block⟩
theorem S4.later {w wx w' : World} {MB SB PB WB : Nat} {am : Option Addr} {zs : List ZM} {me : Mem} {P : List Prp} {apx : Option Addr} {oa : Option Addr} {na ca : Nat} {ob : Option Addr} {nr cr : Nat} (h : S4 w wx MB SB PB WB am zs me P apx oa na ca ob nr cr) (hb : Below wx.heap.size wx w') : S4 w w' MB SB PB WB am zs me P apx oa na ca ob nr cr :=
  ⟨h.s3.later hb, h.ah.later hb, h.bW.kept (kept_of_below hb) trivial, h.le, h.lt⟩
/-- Where the wanted update is from. -/
def FW (wx : World) (apx : Option Addr) (P : List Prp) (nx : Int) (oa : Option Addr) (na ca : Nat) (ob : Option Addr) (nr cr : Nat) : Prop :=
  (∃ ab, apx = some ⟨ab, 0, none⟩ ∧ Blk wx ab 39 #[.slice oa na ca, .slice ob nr cr]) ∨
  (apx = none ∧ ∃ j, bst P nx P.length = some j ∧ oa = (P.getD j prp0).oa ∧ na = (P.getD j prp0).na ∧ ca = (P.getD j prp0).ca ∧ ob = (P.getD j prp0).ob ∧ nr = (P.getD j prp0).nr ∧ cr = (P.getD j prp0).cr) ∨
  (apx = none ∧ bst P nx P.length = none ∧ oa = none ∧ na = 0 ∧ ca = 0 ∧ ob = none ∧ nr = 0 ∧ cr = 0)

def bI : Option Nat → Int
  | none => -1
  | some j => j

end Go.Proofs.Ybulkcdnw
