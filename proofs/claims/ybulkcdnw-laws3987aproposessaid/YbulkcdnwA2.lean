/-
  zzs3987aupd.
-/
import Derived.Test.YbulkcdnwA1
import Derived.Deep.RegionLaw
import Derived.Deep.DrawnRows
import Derived.Deep.AppendLies
namespace Go.Proofs.Ybulkcdnw
open Go.RowKit
set_option maxRecDepth 100000
set_option linter.unusedSimpArgs false
set_option linter.unusedVariables false
def zero33 : Value := .agg #[.string ⟨#[]⟩, .int .u64 0]
theorem info33 : (Yba.prog.info? 33).map (fun i => (i.zero, i.size, i.bytes)) = some (some zero33, 2, 24) := by kernel_rfl

/-- The address that the law gives the i-th name. -/
def adS (i : Nat) : ByteArray := nmS i ++ ⟨#[58, 49]⟩
theorem nmS_size (i : Nat) : (nmS i).size ≤ 3 := by
  show ((nmI i).map fun z => UInt8.ofNat z).toArray.size ≤ 3
  unfold nmI
  split <;> simp
/-- The bytes of a slice that came in. -/
def BytesIn (w : World) (ao : Option Addr) (zs : List Nat) : Prop := ∀ k, k < zs.length → ∃ b off, ao = some ⟨b, off, none⟩ ∧ b < w.heap.size ∧ w.cell? ⟨b, off + k, none⟩ = some (.int .u8 (zs.getD k 0 : Nat)) ∧ zs.getD k 0 < 256

/-- The update under way: block U. -/
structure UR (w wr : World) (k j : Nat) : Prop where
  ex : ∃ (va vr : Value) (ms : List Mem) (l : List (ByteArray × Int)), ms.length = k ∧ l.length = j ∧ Blk wr w.heap.size 39 #[.slice none 0 0, .slice none 0 0] ∧ Blk wr (w.heap.size + 1) 39 #[va, vr] ∧
    wr.ownsRow w.heap.size 35 4 va k (memCells ms) ∧ wr.ownsRow w.heap.size 33 2 vr j (idCells l) ∧ Below w.heap.size w wr

theorem kept_of_below {w w' : World} (h : Below w.heap.size w w') : Kept (fun _ => True) w w' := ⟨h.os, h.tape, h.output, h.size, fun k hk _ => h.block k hk⟩
theorem below_of_kept {w w' : World} (h : Kept (fun _ => True) w w') : Below w.heap.size w w' := ⟨h.os, h.tape, h.output, h.size, fun k hk => h.block k hk trivial⟩
theorem UR.later {w wr w1 : World} {k j : Nat} (h : UR w wr k j) (hb : Below wr.heap.size wr w1) : UR w w1 k j := by
  obtain ⟨va, vr, ms, l, hms, hl, b0, b1, om, oi, bel⟩ := h.ex
  have K := kept_of_below hb
  exact ⟨va, vr, ms, l, hms, hl, b0.kept K trivial, b1.kept K trivial, own_kept om K (fun _ _ _ _ => trivial), own_kept oi K (fun _ _ _ _ => trivial), bel.trans (hb.mono bel.size)⟩

theorem own_other {w w2 : World} {base : Nat} {e e' : TypeId} {s s' n n' : Nat} {v v' : Value} {xs xs' : List Value} {o : Obj} (ho : w.ownsRow base e s v n xs) (ho' : w.ownsRow base e' s' v' n' xs') (hne : e ≠ e') (hg : (w.alloc o).grownBy w2 v.ownBlock) : w2.ownsRow base e' s' v' n' xs' := by
  have K : Kept (fun b => v.ownBlock ≠ some b) w w2 := (((Kept.refl _ w).alloc o).grown hg (fun k hk _ hp => hp hk))
  refine own_kept ho' K (fun b c _ hb hk => ?_)
  obtain ⟨_, c', hc'⟩ := own_type ho hk
  rw [hb] at hc'
  simp at hc'
  exact hne hc'.2.symm

theorem stepA {w w1 w2 : World} {k : Nat} {va vr v2 : Value} {ms : List Mem} {l : List (ByteArray × Int)} {m : Mem} {o : Obj} (hms : ms.length = k) (hl : l.length = 0) (b0 : Blk w1 w.heap.size 39 #[.slice none 0 0, .slice none 0 0]) (b1 : Blk w1 (w.heap.size + 1) 39 #[va, vr])
    (om : w1.ownsRow w.heap.size 35 4 va k (memCells ms)) (oi : w1.ownsRow w.heap.size 33 2 vr 0 (idCells l)) (bel : Below w.heap.size w w1)
    (ho : w2.ownsRow w.heap.size 35 4 v2 (k + 1) (memCells ms ++ m.cells)) (hg : (w1.alloc o).grownBy w2 va.ownBlock) : UR w (w2.setCell ⟨w.heap.size + 1, 0, none⟩ v2) (k + 1) 0 := by
  have c0 : Blk w2 w.heap.size 39 #[.slice none 0 0, .slice none 0 0] := (b0.alloc o).grown hg (own_apart om b0 (by decide))
  have c1 : Blk w2 (w.heap.size + 1) 39 #[va, vr] := (b1.alloc o).grown hg (own_apart om b1 (by decide))
  have oi2 := own_other om oi (by decide) hg
  refine ⟨v2, vr, ms ++ [m], l, by simp [hms], hl, c0.setOther (by show w.heap.size ≠ w.heap.size + 1; omega) _, c1.set 0 v2, ?_, ?_, ?_⟩
  · refine ownsRow_setCell_other ?_ (own_apart ho c1 (by decide)) _
    simpa [memCells] using ho
  · exact ownsRow_setCell_other oi2 (own_apart oi2 c1 (by decide)) _
  · have := bel.size
    exact ((bel.alloc bel.size o).grown hg (by simp; omega) (own_ge om)).setCell (p := ⟨w.heap.size + 1, 0, none⟩) (by show w.heap.size ≤ w.heap.size + 1; omega) _

theorem step_call {P : Program} {ops : Array Oper} {o : Oper} {a : Act} {w : World} {K : Act → World → Prop} {Q : Exit → Act → World → Prop} {E : Prop} {Post : Ending → World → Prop} (hgd : o.guard = none) (f : FuncId) (args : Array Value) (hrun : (execOp a.eval o).run P w = .ok (.enter f args) w)
    (hc : Calls P f args w Post) (h : ∀ e w', Post e w' → ∃ v, e = .returned v ∧ K (a.put o.dst v) w') : if Region.wanted o (yielded ops a.tmps) = true then Oper.wp P o a w K Q else E := by
  rw [if_pos (by simp [Region.wanted, hgd])]
  unfold Oper.wp
  rw [hrun, Oper.upon_enter]
  refine hc.mono fun e w' hh => ?_
  obtain ⟨v, rfl, hK⟩ := h e w' hh
  exact hK

theorem wrap_small (z : Nat) (hz : z < 1000) : IntKind.i64.wrap ((z : Nat) : Int) = z := by
  simp [IntKind.wrap, IntKind.signed, IntKind.bits]
  omega
theorem wrap_smallu (z : Nat) (hz : z < 1000) : IntKind.u64.wrap ((z : Nat) : Int) = z := by
  simp [IntKind.wrap, IntKind.signed, IntKind.bits]
  omega
def UX (w w1 : World) (k j : Nat) (va vr : Value) (ms : List Mem) (l : List (ByteArray × Int)) : Prop :=
  Blk w1 w.heap.size 39 #[.slice none 0 0, .slice none 0 0] ∧ Blk w1 (w.heap.size + 1) 39 #[va, vr] ∧ w1.ownsRow w.heap.size 35 4 va k (memCells ms) ∧ w1.ownsRow w.heap.size 33 2 vr j (idCells l) ∧ Below w.heap.size w w1
theorem UX.later {w wr w1 : World} {k j : Nat} {va vr : Value} {ms : List Mem} {l : List (ByteArray × Int)} (h : UX w wr k j va vr ms l) (hb : Below wr.heap.size wr w1) : UX w w1 k j va vr ms l := by
  obtain ⟨b0, b1, om, oi, bel⟩ := h
  have K := kept_of_below hb
  exact ⟨b0.kept K trivial, b1.kept K trivial, own_kept om K (fun _ _ _ _ => trivial), own_kept oi K (fun _ _ _ _ => trivial), bel.trans (hb.mono bel.size)⟩
theorem stepB {w w1 w2 : World} {k j : Nat} {va vr v2 : Value} {ms : List Mem} {l : List (ByteArray × Int)} {m : ByteArray × Int} {o : Obj} (hms : ms.length = k) (hl : l.length = j) (h : UX w w1 k j va vr ms l)
    (ho : w2.ownsRow w.heap.size 33 2 v2 (j + 1) (idCells l ++ [.string m.1, .int .u64 m.2])) (hg : (w1.alloc o).grownBy w2 vr.ownBlock) :
    Blk w2 (w.heap.size + 1) 39 #[va, vr] ∧ UR w (w2.setCell ⟨w.heap.size + 1, 1, none⟩ v2) k (j + 1) := by
  obtain ⟨b0, b1, om, oi, bel⟩ := h
  have c0 : Blk w2 w.heap.size 39 #[.slice none 0 0, .slice none 0 0] := (b0.alloc o).grown hg (own_apart oi b0 (by decide))
  have c1 : Blk w2 (w.heap.size + 1) 39 #[va, vr] := (b1.alloc o).grown hg (own_apart oi b1 (by decide))
  have om2 := own_other oi om (by decide) hg
  refine ⟨c1, ⟨va, v2, ms, l ++ [m], hms, by simp [hl], c0.setOther (by show w.heap.size ≠ w.heap.size + 1; omega) _, c1.set 1 v2, ?_, ?_, ?_⟩⟩
  · exact ownsRow_setCell_other om2 (own_apart om2 c1 (by decide)) _
  · refine ownsRow_setCell_other ?_ (own_apart ho c1 (by decide)) _
    rw [idCells_snoc]
    exact ho
  · have := bel.size
    exact ((bel.alloc bel.size o).grown hg (by simp; omega) (own_ge oi)).setCell (p := ⟨w.heap.size + 1, 1, none⟩) (by show w.heap.size ≤ w.heap.size + 1; omega) _

theorem upd_fin {w w1 : World} {k j : Nat} {va vr : Value} {ms : List Mem} {l : List (ByteArray × Int)} (h : UX w w1 k j va vr ms l) :
    Blk ((w1.setCell ⟨w.heap.size, 0, none⟩ va).setCell ⟨w.heap.size, 1, none⟩ vr) w.heap.size 39 #[va, vr] ∧ ((w1.setCell ⟨w.heap.size, 0, none⟩ va).setCell ⟨w.heap.size, 1, none⟩ vr).ownsRow 0 35 4 va k (memCells ms) ∧
      ((w1.setCell ⟨w.heap.size, 0, none⟩ va).setCell ⟨w.heap.size, 1, none⟩ vr).ownsRow 0 33 2 vr j (idCells l) ∧ Below w.heap.size w ((w1.setCell ⟨w.heap.size, 0, none⟩ va).setCell ⟨w.heap.size, 1, none⟩ vr) := by
  obtain ⟨b0, b1, om, oi, bel⟩ := h
  refine ⟨(b0.set 0 va).set 1 vr, ?_, ?_, (bel.setCell (p := ⟨w.heap.size, 0, none⟩) (Nat.le_refl _) _).setCell (p := ⟨w.heap.size, 1, none⟩) (Nat.le_refl _) _⟩
  · have n := own_apart om b0 (by decide)
    exact own_base (ownsRow_setCell_other (ownsRow_setCell_other om n _) n _) (Nat.zero_le _)
  · have n := own_apart oi b0 (by decide)
    exact own_base (ownsRow_setCell_other (ownsRow_setCell_other oi n _) n _) (Nat.zero_le _)

set_option maxHeartbeats 1000000 in
theorem upd_any (aa ab : Option Addr) (za zb : List Nat) (ca cb : Nat) (w : World) (ha : BytesIn w aa za) (hb : BytesIn w ab zb) (hla : za.length ≤ 300) (hlb : zb.length ≤ 300) :
    Calls Yba.prog 7 #[.slice aa za.length ca, .slice ab zb.length cb] w fun e w' => ∃ va vr ms l, e = .returned (.agg #[va, vr]) ∧ ms.length ≤ 300 ∧ l.length ≤ 300 ∧ OwnM w' va ms ∧ OwnI w' vr l ∧ Below w.heap.size w w' := by
  obtain ⟨i0, hii, hz0, hz1, hz2⟩ := info_parts info35
  obtain ⟨i1, hji, hy0, hy1, hy2⟩ := info_parts info33
  have HA := Shy.mk ha
  have HB := Shy.mk hb
  clear ha hb
  go_enter Yba.func7, Yba.ntmps7
  go_wp2
  go_loopw [13] (fun x wr => ∃ k : Nat, k ≤ za.length ∧ x = .int .i64 k ∧ Shy (UR w wr k 0)) (fun x _ => za.length - (intOf x).toNat)
  case atStart =>
    refine ⟨0, Nat.zero_le _, rfl, ⟨⟨.slice none 0 0, .slice none 0 0, [], [], rfl, rfl, ?_, ?_, ⟨rfl, .inl ⟨rfl, rfl⟩⟩, ⟨rfl, .inl ⟨rfl, rfl⟩⟩, ?_⟩⟩⟩
    · exact (Blk.new w 39 _).alloc _
    · have := Blk.new (w.alloc (.cells #[.slice none 0 0, .slice none 0 0] 39)) 39 #[.slice none 0 0, .slice none 0 0]
      simpa using this
    · exact ((Below.refl _ w).alloc (Nat.le_refl _) _).alloc (by simp) _
  case round =>
    obtain ⟨k, hk, rfl, hinv⟩ := hrel
    obtain ⟨va, vr, ms, l, hms, hl, b0, b1, om, oi, bel⟩ := hinv.out.ex
    by_cases hlt : k < za.length
    · obtain ⟨b, off, rfl, hbl, hcell, hz⟩ := HA.out k hlt
      obtain ⟨z, hzz⟩ : ∃ z, za.getD k 0 = z := ⟨_, rfl⟩
      rw [hzz] at hcell hz
      have c1 := (bel.cell (p := ⟨b, off + k, none⟩) hbl).trans hcell
      have c2 := b1.cell 0
      have f2 := b1.frozen 0
      have hs := b1.lt
      have HI := Shy.mk hinv.out
      clear b0 b1 om oi bel hinv
      go_upto_region 6 with (go_at_call 6; refine (name_any z (by omega) _).mono ?_; rintro e w1 ⟨rfl, hb1⟩; have HI1 := Shy.mk (HI.out.later hb1); clear hb1)
      clear c1 c2 f2 hs hms hl
      obtain ⟨va, vr, ms, l, hms, hl, b0, b1, om, oi, bel⟩ := HI1.out.ex
      have c2 : w1.cell? ⟨w.heap.size + 1, 0, none⟩ = some va := b1.cell 0
      have f2 := b1.frozen 0
      have hs := b1.lt
      have HX := Shy.mk (And.intro b0 (And.intro b1 (And.intro oi bel)))
      clear b0 b1 oi bel HI HI1
      have hn3 : ((nmS z).size : Int) ≤ 8388608 := by have := nmS_size z; omega
      go_wp2_with (at_builtin; refine wpList_append_own _ rfl (.tmp 21) (.tmp 29) 30 rfl w.heap.size 35 i0 zero35 4 56 Yba.underlying30 hii hz0 hz1 hz2 rfl (by decide) _ _ _ rfl (om.alloc _) ⟨w1.heap.size, 0, none⟩ 1 1 (Mem.cells ⟨nmS z, (z : Nat), adS z, ⟨#[]⟩⟩) rfl rfl ?c1 ?c2 ?c3 ?c4 ?c5 ?_)
      case c1 => exact cells_new _ (Mem.cells ⟨nmS z, (z : Nat), adS z, ⟨#[]⟩⟩) _
      case c2 => intro u hu; simp [Mem.cells] at hu; rcases hu with rfl | rfl | rfl | rfl <;> rfl
      case c3 => unfold maxLen; omega
      case c4 => omega
      case c5 => have := HX.out.2.2.2.size; simp; omega
      intro v2 w2 hown2 hgrow2 _
      have k1 : Blk w2 (w.heap.size + 1) 39 #[va, vr] := (HX.out.2.1.alloc _).grown hgrow2 (own_apart om HX.out.2.1 (by decide))
      have g1 : w2.cell? ⟨w.heap.size + 1, 0, none⟩ = some va := k1.cell 0
      have g2 := k1.frozen 0
      have HR := Shy.mk (stepA hms hl HX.out.1 HX.out.2.1 om HX.out.2.2.1 HX.out.2.2.2 hown2 hgrow2)
      obtain ⟨gg, cp, rfl, _⟩ := hown2.form (Nat.succ_pos k)
      clear k1 hown2 hgrow2 om c2 f2
      go_wp2
      go_roundw
      case rel => exact ⟨k + 1, by omega, by go_num, HR⟩
      case measure => simp [intOf]; omega
    · obtain rfl : k = za.length := by omega
      clear b0 b1 om oi bel
      go_wp2
      go_loopw [35] (fun x wr => ∃ k : Nat, k ≤ zb.length ∧ x = .int .i64 k ∧ Shy (UR w wr za.length k)) (fun x _ => zb.length - (intOf x).toNat)
      case atStart => exact ⟨0, Nat.zero_le _, rfl, hinv⟩
      case round =>
        clear hinv hms hl
        obtain ⟨k, hk, rfl, hinv⟩ := hrel
        obtain ⟨va, vr, ms, l, hms, hl, b0, b1, om, oi, bel⟩ := hinv.out.ex
        by_cases hlt : k < zb.length
        · obtain ⟨b, off, rfl, hbl, hcell, hz⟩ := HB.out k hlt
          obtain ⟨z, hzz⟩ : ∃ z, zb.getD k 0 = z := ⟨_, rfl⟩
          rw [hzz] at hcell hz
          have c1 := (bel.cell (p := ⟨b, off + k, none⟩) hbl).trans hcell
          have c2 : wr.cell? ⟨w.heap.size + 1, 1, none⟩ = some vr := b1.cell 1
          have f2 := b1.frozen 1
          have hs := b1.lt
          have HX : Shy (UX w wr za.length k va vr ms l) := ⟨⟨b0, b1, om, oi, bel⟩⟩
          clear b0 b1 om oi bel
          have hw1 : IntKind.i64.wrap ((z : Nat) : Int) = z := wrap_small z (by omega)
          have hw2 : IntKind.u64.wrap ((z : Nat) : Int) = z := wrap_smallu z (by omega)
          go_upto_region 11 with fail
          go_region_law ((first | (refine step_call (by rfl) 6 #[.int .i64 (z : Nat)] (by simp [go_sem, execOp, Yba.func6]) (name_any z (by omega) _) ?_; rintro e w1 ⟨rfl, hb1⟩; refine ⟨_, rfl, ?_⟩; obtain ⟨n0, n1, n2, n3, n4⟩ := UX.later HX.out ⟨hb1.os, hb1.tape, hb1.output, hb1.size, hb1.block⟩; have q2 : w1.cell? ⟨w.heap.size + 1, 1, none⟩ = some vr := n1.cell 1; have qa : ∀ o : Obj, (w1.alloc o).cell? ⟨w.heap.size + 1, 1, none⟩ = some vr := (fun o => (n1.alloc o).cell 1); have HX1 : Shy (UX w w1 za.length k va vr ms l) := ⟨⟨n0, n1, n2, n3, n4⟩⟩; clear n0 n1 n2 n3 n4 hb1) | (refine step_append_lies _ (by rfl) (.tmp 40) (.tmp 47) 37 (by rfl) w.heap.size 33 i1 zero33 2 24 Yba.underlying37 hji hy0 hy1 hy2 rfl (by decide) vr k (idCells l) (by simp [Act.eval, Act.put]) (by exact HX1.out.2.2.2.1.alloc _) ⟨w1.heap.size, 0, none⟩ 1 1 [.string (nmS z), .int .u64 (z : Nat)] (by simp [Act.eval, Act.put]) rfl (by exact cells_new _ [.string (nmS z), .int .u64 (z : Nat)] _) (by intro u hu; simp at hu; rcases hu with rfl | rfl <;> rfl) (by decide) (by unfold maxLen; omega) (by omega) (by have := HX1.out.2.2.2.2.size; simp; omega) (w1.heap.size + 1) (by simp) ?_; intro g cp w2 hown2 hgrow2 hat hlt2; obtain ⟨k1, HR⟩ := stepB (m := (nmS z, ((z : Nat) : Int))) hms hl HX1.out hown2 hgrow2; have g1 : w2.cell? ⟨w.heap.size + 1, 1, none⟩ = some vr := k1.cell 1; have g2 := k1.frozen 1; have HRR := Shy.mk HR; clear k1 HR hown2 hgrow2)))
          all_goals
            go_wp2
            go_roundw
            case rel => exact ⟨k + 1, by omega, by go_num, by assumption⟩
            case measure => simp [intOf]; omega
        · obtain rfl : k = zb.length := by omega
          have c0 : wr.cell? ⟨w.heap.size, 0, none⟩ = some (.slice none 0 0) := b0.cell 0
          have c0' : wr.cell? ⟨w.heap.size, 1, none⟩ = some (.slice none 0 0) := b0.cell 1
          have c1 : wr.cell? ⟨w.heap.size + 1, 0, none⟩ = some va := b1.cell 0
          have c1' : wr.cell? ⟨w.heap.size + 1, 1, none⟩ = some vr := b1.cell 1
          have f0 := b0.frozen 0
          have f1 := b0.frozen 1
          obtain ⟨ao, cpa, rfl, _⟩ := own_shape (own_base om (Nat.zero_le _))
          obtain ⟨bo, cpb, rfl, _⟩ := own_shape (own_base oi (Nat.zero_le _))
          have HX : Shy (UX w wr za.length zb.length (.slice ao za.length cpa) (.slice bo zb.length cpb) ms l) := ⟨⟨b0, b1, om, oi, bel⟩⟩
          clear b0 b1 om oi bel
          go_wp2
          have HF := upd_fin HX.out
          (try simp only [Exit.inBlock, Exit.then])
          refine bodyPost_ret (results_cell_row rfl _ _ w.heap.size 39 _ _ _ rfl HF.1 Yba.underlying39 rfl (by kernel_rfl)) rfl ?_
          exact ⟨_, _, ms, l, rfl, by omega, by omega, by rw [OwnM, hms]; exact HF.2.1, by rw [OwnI, hl]; exact HF.2.2.1, HF.2.2.2⟩
end Go.Proofs.Ybulkcdnw
