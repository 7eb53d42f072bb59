/-
  (*Node).choose, no process asking to join.
-/
import Derived.Test.YbulkcdnwA11
import Derived.Test.YbulkcdnwA9
namespace Go.Proofs.Ybulkcdnw
open Go.RowKit
set_option maxRecDepth 100000
set_option linter.unusedSimpArgs false
set_option linter.unusedVariables false
attribute [local go_sem ↓] Go.wp_at_zero Go.wp_at_succ

/-- The members to be removed. -/
def remL (ks lvs : List (ByteArray × Int)) (ms : List Mem) : List (ByteArray × Int) := (ms.filter fun m => hasK ks (idOf m) || hasK lvs (idOf m)).map idOf
theorem remL_snoc (ks lvs : List (ByteArray × Int)) (ms : List Mem) (m : Mem) : remL ks lvs (ms ++ [m]) = remL ks lvs ms ++ (if (hasK ks (idOf m) || hasK lvs (idOf m)) = true then [idOf m] else []) := by
  unfold remL
  rw [List.filter_append, List.map_append]
  by_cases h : (hasK ks (idOf m) || hasK lvs (idOf m)) = true
  · rw [if_pos h]; simp only [List.filter_cons, List.filter_nil]; rw [if_pos h]; rfl
  · rw [if_neg h]; simp only [List.filter_cons, List.filter_nil]; rw [if_neg h]; rfl
theorem remL_len (ks lvs : List (ByteArray × Int)) (ms : List Mem) : (remL ks lvs ms).length ≤ ms.length := by
  unfold remL
  rw [List.length_map]
  exact List.length_filter_le _ _
theorem set_same {N : Array Value} {j : Nat} {v : Value} (h : N[j]? = some v) : N.setIfInBounds j v = N := by
  apply Array.ext_getElem?
  intro i
  rw [Array.getElem?_setIfInBounds]
  split
  · rename_i e
    subst e
    rw [if_pos (Array.getElem?_eq_some_iff.1 h).1, h]
  · rfl

/-- choose under way. -/
structure Ch (w wx : World) (nb mb sb : Nat) (N M : Array Value) (ms : List Mem) (ks lvs : List (ByteArray × Int)) (lv : Value) : Prop where
  nk : NodeOk wx nb mb sb N M ms ks
  cb : Blk wx w.heap.size 52 #[.pointer (some ⟨nb, 0, none⟩)]
  kp : Kept (fun k => k ≠ nb) w wx
  ol : OwnI wx lv lvs
theorem Ch.later {w wx w' : World} {nb mb sb : Nat} {N M : Array Value} {ms : List Mem} {ks lvs : List (ByteArray × Int)} {lv : Value} (h : Ch w wx nb mb sb N M ms ks lvs lv) (k : Kept (fun _ => True) wx w') : Ch w w' nb mb sb N M ms ks lvs lv :=
  ⟨h.nk.kept k trivial trivial trivial, h.cb.kept k trivial, h.kp.trans (k.mono fun _ _ _ => trivial), h.ol.kept k⟩
theorem Ch.set {w wx : World} {nb mb sb : Nat} {N M : Array Value} {ms : List Mem} {ks lvs : List (ByteArray × Int)} {lv : Value} (h : Ch w wx nb mb sb N M ms ks lvs lv) (j : Nat) (v : Value) : Ch w (wx.setCell ⟨nb, j, none⟩ v) nb mb sb (N.setIfInBounds j v) M ms ks lvs lv := by
  have K : Kept (fun k => k ≠ nb) wx (wx.setCell ⟨nb, j, none⟩ v) := (Kept.refl _ wx).setCell (q := ⟨nb, j, none⟩) (by simp) _
  exact ⟨⟨h.nk.hN.set j v, h.nk.hM.kept K (h.nk.hM.ne h.nk.hN (by decide)), h.nk.hMs, h.nk.hmp.kept K (h.nk.hmp.ne h.nk.hN)⟩, h.cb.kept K (h.cb.ne h.nk.hN (by decide)), h.kp.trans K, own_kept h.ol K (fun b c _ hc => Blk.ne (show Blk wx b 33 c from hc) h.nk.hN (by decide))⟩

/-- The row under way, the member's variable. -/
def ChR (w wx : World) (nb mb sb VB : Nat) (N M : Array Value) (ms : List Mem) (ks lvs : List (ByteArray × Int)) (lv v : Value) (l : List (ByteArray × Int)) (m : Mem) : Prop :=
  Ch w wx nb mb sb N M ms ks lvs lv ∧ wx.ownsRow w.heap.size 33 2 v l.length (idCells l) ∧ Blk wx VB 35 #[.string m.nm, .int .u64 m.inc, .string m.ad, .string m.tk]
theorem ChR.later {w wx w' : World} {nb mb sb VB : Nat} {N M : Array Value} {ms : List Mem} {ks lvs : List (ByteArray × Int)} {lv v : Value} {l : List (ByteArray × Int)} {m : Mem} (h : ChR w wx nb mb sb VB N M ms ks lvs lv v l m) (k : Kept (fun _ => True) wx w') : ChR w w' nb mb sb VB N M ms ks lvs lv v l m :=
  ⟨h.1.later k, own_kept h.2.1 k (fun _ _ _ _ => trivial), h.2.2.kept k trivial⟩

theorem choose_step {w W6 w7 : World} {nb mb sb : Nat} {N M : Array Value} {ms : List Mem} {ks lvs : List (ByteArray × Int)} {lv v v2 : Value} {l : List (ByteArray × Int)} {m : ByteArray × Int} {o : Obj} (ltn : nb < w.heap.size) (h : Ch w W6 nb mb sb N M ms ks lvs lv) (ho : W6.ownsRow w.heap.size 33 2 v l.length (idCells l))
    (h7 : w7.ownsRow w.heap.size 33 2 v2 (l.length + 1) (idCells l ++ [.string m.1, .int .u64 m.2])) (hg : (W6.alloc o).grownBy w7 v.ownBlock) (hlv : OwnI w lv lvs) : Ch w w7 nb mb sb N M ms ks lvs lv ∧ w7.ownsRow w.heap.size 33 2 v2 (l ++ [m]).length (idCells (l ++ [m])) := by
  have K : Kept (fun b => v.ownBlock ≠ some b) W6 w7 := ((Kept.refl _ W6).alloc o).grown hg (fun k hk _ hp => hp hk)
  have nz : ∀ {b t c}, Blk W6 b t c → t ≠ 33 → v.ownBlock ≠ some b := fun hb hne => own_apart ho hb (fun e => hne e.symm)
  have hmpn : v.ownBlock ≠ some sb := fun e => by
    obtain ⟨_, c, hc⟩ := own_type ho e
    have := (show W6.heap[sb]? = _ from h.nk.hmp).symm.trans hc
    simp at this
  refine ⟨⟨h.nk.kept K (nz h.nk.hN (by decide)) (nz h.nk.hM (by decide)) hmpn, h.cb.kept K (nz h.cb (by decide)), ?_, ?_⟩, by rw [idCells_snoc, List.length_append]; exact h7⟩
  · refine ⟨K.os.trans h.kp.os, K.tape.trans h.kp.tape, K.output.trans h.kp.output, Nat.le_trans h.kp.size K.size, fun k hk hp => ?_⟩
    rw [K.block k (Nat.lt_of_lt_of_le hk h.kp.size) (fun e => by have := own_ge ho k e; omega)]
    exact h.kp.block k hk hp
  · have hkw : OwnI W6 lv lvs := h.ol
    refine ⟨hkw.1, ?_⟩
    rcases hlv.2 with ⟨e1, e2⟩ | ⟨g, cap, cur, e1, _, hg1, _⟩
    · exact .inl ⟨e1, e2⟩
    · have hgl : g < w.heap.size := (Array.getElem?_eq_some_iff.1 hg1).1
      rcases hkw.2 with ⟨e3, e4⟩ | ⟨g2, cap2, cur2, e3, b2, hg2, rest⟩
      · exact .inl ⟨e3, e4⟩
      · have hgg : g2 = g := by rw [e1] at e3; simp at e3; exact e3.1.symm
        refine .inr ⟨g2, cap2, cur2, e3, b2, ?_, rest⟩
        rw [K.block g2 (Array.getElem?_eq_some_iff.1 hg2).1 (fun e => by have := own_ge ho g2 e; omega)]
        exact hg2

theorem choose_end {w wr : World} {nb mb sb : Nat} {N M : Array Value} {ms : List Mem} {ks lvs : List (ByteArray × Int)} {lv v : Value} {l : List (ByteArray × Int)} (h : Ch w wr nb mb sb N M ms ks lvs lv) (ho : wr.ownsRow w.heap.size 33 2 v l.length (idCells l)) :
    Blk ((wr.setCell ⟨nb, 34, none⟩ (.slice none 0 0)).alloc (.cells #[.slice none 0 0, v] 39)) wr.heap.size 39 #[.slice none 0 0, v] ∧ OwnI ((wr.setCell ⟨nb, 34, none⟩ (.slice none 0 0)).alloc (.cells #[.slice none 0 0, v] 39)) v l ∧
      NodeOk ((wr.setCell ⟨nb, 34, none⟩ (.slice none 0 0)).alloc (.cells #[.slice none 0 0, v] 39)) nb mb sb (N.setIfInBounds 34 (.slice none 0 0)) M ms ks ∧ Kept (fun k => k ≠ nb) w ((wr.setCell ⟨nb, 34, none⟩ (.slice none 0 0)).alloc (.cells #[.slice none 0 0, v] 39)) := by
  have hc := (h.set 34 (.slice none 0 0)).later ((Kept.refl (fun _ => True) _).alloc (.cells #[.slice none 0 0, v] 39))
  have b := Blk.new (wr.setCell ⟨nb, 34, none⟩ (.slice none 0 0)) 39 #[.slice none 0 0, v]
  have e : (wr.setCell ⟨nb, 34, none⟩ (.slice none 0 0)).heap.size = wr.heap.size := by simp [World.setCell]
  rw [e] at b
  refine ⟨b, ?_, hc.nk, hc.kp⟩
  exact own_base (own_kept (ownsRow_setCell_other ho (own_apart ho h.nk.hN (by decide)) _) ((Kept.refl (fun _ => True) _).alloc _) (fun _ _ _ _ => trivial)) (Nat.zero_le _)

set_option maxHeartbeats 4000000 in
theorem choose_any (nb mb sb : Nat) (N M : Array Value) (ms : List Mem) (ks lvs : List (ByteArray × Int)) (lv : Value) (w : World) (hH : NodeOk w nb mb sb N M ms ks) (hl : ms.length ≤ 1000) (hlv : lvs.length ≤ 1000) (hol : OwnI w lv lvs)
    (h17 : N[17]? = some (.slice (some ⟨mb, 0, none⟩) ms.length ms.length)) (h39 : N[39]? = some (.map (some sb))) (h33 : N[33]? = some (.slice none 0 0)) (h34 : N[34]? = some lv) (hne : 0 < (remL ks lvs ms).length) :
    Calls Yba.prog 20 #[.pointer (some ⟨nb, 0, none⟩)] w fun e w' => ∃ ub vr, e = .returned (.pointer (some ⟨ub, 0, none⟩)) ∧ Blk w' ub 39 #[.slice none 0 0, vr] ∧ OwnI w' vr (remL ks lvs ms) ∧ NodeOk w' nb mb sb (N.setIfInBounds 34 (.slice none 0 0)) M ms ks ∧ Kept (fun k => k ≠ nb) w w' := by
  obtain ⟨i1, hji, hy0, hy1, hy2⟩ := info_parts info33
  have HC0 : Shy (Ch w (w.alloc (.cells #[.pointer (some ⟨nb, 0, none⟩)] 52)) nb mb sb N M ms ks lvs lv) := ⟨⟨hH.kept ((Kept.refl (fun _ => True) w).alloc _) trivial trivial trivial, Blk.new _ _ _, (Kept.refl _ w).alloc _, hol.kept ((Kept.refl (fun _ => True) w).alloc _)⟩⟩
  have ltn := hH.hN.lt
  have HH := Shy.mk (And.intro hne hol)
  clear hne hol hH
  go_enter Yba.func20, Yba.ntmps20
  go_upto_region 2 with fail
  generalize w.alloc (.cells #[.pointer (some ⟨nb, 0, none⟩)] 52) = W1 at HC0 ⊢
  have c0 : W1.cell? ⟨w.heap.size, 0, none⟩ = some (.pointer (some ⟨nb, 0, none⟩)) := HC0.out.cb.cell 0
  have c33 : W1.cell? ⟨nb, 33, none⟩ = some (.slice none 0 0) := (HC0.out.nk.hN.cell 33).trans h33
  have f33 := HC0.out.nk.hN.frozen 33
  go_cut [] from 14 to 23 (fun wx => Shy (Ch w wx nb mb sb N M ms ks lvs lv))
  case first =>
    go_region_with ((go_at_call 31; refine (del_nil _ _).mono ?_; rintro e w1 ⟨rfl, rfl⟩))
    all_goals go_wp2
    all_goals go_meet
    all_goals
      have h := (HC0.out.later ((Kept.refl (fun _ => True) W1).drew)).set 33 (.slice none 0 0)
      rw [set_same h33] at h
      exact ⟨h⟩
  case rest =>
  obtain ⟨W2, hW2⟩ : ∃ W2, W2 = wc := ⟨_, rfl⟩
  subst hW2
  have HC := hcut
  clear c0 c33 f33 HC0 hcut
  have c0 : W2.cell? ⟨w.heap.size, 0, none⟩ = some (.pointer (some ⟨nb, 0, none⟩)) := HC.out.cb.cell 0
  have c33 : W2.cell? ⟨nb, 33, none⟩ = some (.slice none 0 0) := (HC.out.nk.hN.cell 33).trans h33
  have c17 : W2.cell? ⟨nb, 17, none⟩ = some (.slice (some ⟨mb, 0, none⟩) ms.length ms.length) := (HC.out.nk.hN.cell 17).trans h17
  go_upto_region 16 with (first | (go_at_call 31; refine (del_nil _ _).mono ?_; rintro e w1 ⟨rfl, rfl⟩) | (go_at_call 33; refine (clone_nil _).mono ?_; rintro e w1 ⟨rfl, rfl⟩))
  go_loopw [8, 92] (fun v i wr => ∃ k : Nat, k ≤ ms.length ∧ i = .int .i64 k ∧ Shy (Ch w wr nb mb sb N M ms ks lvs lv ∧ wr.ownsRow w.heap.size 33 2 v (remL ks lvs (ms.take k)).length (idCells (remL ks lvs (ms.take k))))) (fun _ i _ => ms.length - (intOf i).toNat)
  case atStart => exact ⟨0, Nat.zero_le _, rfl, ⟨HC.out, ⟨rfl, .inl ⟨rfl, rfl⟩⟩⟩⟩
  case round =>
    clear c0 c33 c17 HC
    obtain ⟨k, hk, rfl, hinv⟩ := hrel
    by_cases hlt : k < ms.length
    · obtain ⟨m, hm⟩ : ∃ m, ms.getD k mem0 = m := ⟨_, rfl⟩
      have hmem : Shy (wr.cell? ⟨mb, k * 4, none⟩ = some (.string m.nm) ∧ wr.cell? ⟨mb, k * 4 + 1, none⟩ = some (.int .u64 m.inc) ∧ wr.cell? ⟨mb, k * 4 + 1 + 1, none⟩ = some (.string m.ad) ∧ wr.cell? ⟨mb, k * 4 + 1 + 1 + 1, none⟩ = some (.string m.tk)) := ⟨by
        rw [← hm]
        exact OwnM.at (fun j u hu => by rw [hinv.out.1.nk.hM.cell, ← Array.getElem?_toList, hinv.out.1.nk.hMs]; exact hu) hlt⟩
      obtain ⟨e0, e1, e2, e3⟩ := hmem.out
      have HM := Shy.mk hm
      clear hmem hm
      obtain ⟨l, hll⟩ : ∃ l, remL ks lvs (ms.take k) = l := ⟨_, rfl⟩
      rw [hll] at hinv
      have hlen : l.length ≤ 1000 := by
        rw [← hll]
        have a1 := remL_len ks lvs (ms.take k)
        have a2 : (ms.take k).length ≤ k := List.length_take_le _ _
        omega
      have HL := Shy.mk hll
      clear hll
      go_upto_region 18 with fail
      have KV : Kept (fun _ => True) wr (wr.alloc (.cells #[.string m.nm, .int .u64 m.inc, .string m.ad, .string m.tk] 35)) := (Kept.refl (fun _ => True) wr).alloc _
      have H5 : Shy (ChR w (wr.alloc (.cells #[.string m.nm, .int .u64 m.inc, .string m.ad, .string m.tk] 35)) nb mb sb wr.heap.size N M ms ks lvs lv u8 l m) := ⟨hinv.out.1.later KV, own_kept hinv.out.2 KV (fun _ _ _ _ => trivial), Blk.new wr 35 _⟩
      clear KV hinv e0 e1 e2 e3
      generalize wr.alloc (.cells #[.string m.nm, .int .u64 m.inc, .string m.ad, .string m.tk] 35) = W5 at H5 ⊢
      generalize wr.heap.size = VB at H5 ⊢
      go_cut [114] from 96 to 113 (fun c wx => c = .bool (hasK ks (m.nm, m.inc) || hasK lvs (m.nm, m.inc)) ∧ Shy (ChR w wx nb mb sb VB N M ms ks lvs lv u8 l m))
      case first =>
        have c0 : W5.cell? ⟨w.heap.size, 0, none⟩ = some (.pointer (some ⟨nb, 0, none⟩)) := H5.out.1.cb.cell 0
        have c39 : W5.cell? ⟨nb, 39, none⟩ = some (.map (some sb)) := (H5.out.1.nk.hN.cell 39).trans h39
        have c34 : W5.cell? ⟨nb, 34, none⟩ = some lv := (H5.out.1.nk.hN.cell 34).trans h34
        have v0 : W5.cell? ⟨VB, 0, none⟩ = some (.string m.nm) := H5.out.2.2.cell 0
        have v1 : W5.cell? ⟨VB, 1, none⟩ = some (.int .u64 m.inc) := H5.out.2.2.cell 1
        have hlk : ∀ (n : Nat), (Instr.lookup 44 (.map (some sb)) (.agg #[.string m.nm, .int .u64 m.inc]) false).run Yba.prog (W5.drewN n) = .ok (.bool (hasK ks (m.nm, m.inc))) (W5.drewN n) := fun n =>
          lk44 (H5.out.1.nk.hmp.kept ((Kept.refl (fun _ => True) W5).drewN n) trivial) _ _
        have hlk1 : (Instr.lookup 44 (.map (some sb)) (.agg #[.string m.nm, .int .u64 m.inc]) false).run Yba.prog W5.drew = .ok (.bool (hasK ks (m.nm, m.inc))) W5.drew :=
          lk44 (H5.out.1.nk.hmp.kept ((Kept.refl (fun _ => True) W5).drew) trivial) _ _
        obtain ⟨ao, cpl, rfl, _⟩ := own_shape H5.out.1.ol
        cases b2 : hasK ks (m.nm, m.inc) with
        | true =>
          rw [b2] at hlk hlk1
          go_quiet (fail)
          go_wp2
          go_meet
          exact ⟨by rw [b2]; rfl, ⟨H5.out.later ((Kept.refl (fun _ => True) W5).drewN _)⟩⟩
        | false =>
          rw [b2] at hlk hlk1
          go_region_held3 (fun w' => w'.cell? ⟨w.heap.size, 0, none⟩ = some (.pointer (some ⟨nb, 0, none⟩)) ∧ w'.cell? ⟨nb, 34, none⟩ = some (.slice ao lvs.length cpl) ∧ w'.cell? ⟨nb, 39, none⟩ = some (.map (some sb)) ∧ w'.cell? ⟨VB, 0, none⟩ = some (.string m.nm) ∧ w'.cell? ⟨VB, 1, none⟩ = some (.int .u64 m.inc)) (simp [go_sem, *])
            ((go_at_call 40; refine (contains_any lvs (.slice ao lvs.length cpl) m.nm m.inc _ (by exact H5.out.1.ol.kept ((Kept.refl (fun _ => True) W5).drew)) hlv).mono ?_; rintro e w6 ⟨rfl, hk6⟩; have H6 := Shy.mk (H5.out.later (((Kept.refl (fun _ => True) W5).drew).trans hk6)); have q0 : w6.cell? ⟨w.heap.size, 0, none⟩ = some (.pointer (some ⟨nb, 0, none⟩)) := H6.out.1.cb.cell 0; have q1 : w6.cell? ⟨nb, 39, none⟩ = some (.map (some sb)) := (H6.out.1.nk.hN.cell 39).trans h39; have q2 : w6.cell? ⟨nb, 34, none⟩ = some (.slice ao lvs.length cpl) := (H6.out.1.nk.hN.cell 34).trans h34; have q3 : w6.cell? ⟨VB, 0, none⟩ = some (.string m.nm) := H6.out.2.2.cell 0; have q4 : w6.cell? ⟨VB, 1, none⟩ = some (.int .u64 m.inc) := H6.out.2.2.cell 1; clear hk6))
          go_wp2
          go_meet
          exact ⟨by rw [b2]; rfl, H6⟩
      case rest =>
      obtain ⟨rfl, H6⟩ := hcut
      obtain ⟨W6, hW6⟩ : ∃ W6, W6 = wc := ⟨_, rfl⟩
      subst hW6
      obtain ⟨c, hc⟩ : ∃ c, (hasK ks (m.nm, m.inc) || hasK lvs (m.nm, m.inc)) = c := ⟨_, rfl⟩
      rw [hc]
      have HCc := Shy.mk hc
      clear hc H5
      cases c with
      | true =>
        have ho := H6.out.2.1
        have v0 : W6.cell? ⟨VB, 0, none⟩ = some (.string m.nm) := H6.out.2.2.cell 0
        have v1 : W6.cell? ⟨VB, 1, none⟩ = some (.int .u64 m.inc) := H6.out.2.2.cell 1
        go_wp2_with (at_builtin; refine wpList_append_own _ rfl (.tmp 115) (.tmp 118) 37 rfl w.heap.size 33 i1 zero33 2 24 Yba.underlying37 hji hy0 hy1 hy2 rfl (by decide) _ _ _ rfl (ho.alloc _) ⟨W6.heap.size, 0, none⟩ 1 1 [.string m.nm, .int .u64 m.inc] rfl rfl ?c1 ?c2 ?c3 ?c4 ?c5 ?_)
        case c1 => exact cells_new _ [.string m.nm, .int .u64 m.inc] _
        case c2 => intro u hu; simp at hu; rcases hu with rfl | rfl <;> rfl
        case c3 => unfold maxLen; omega
        case c4 => omega
        case c5 => have := H6.out.1.kp.size; simp; omega
        intro v2 w7 hown7 hgrow7 _
        have HR := Shy.mk (choose_step (m := (m.nm, m.inc)) ltn H6.out.1 ho hown7 hgrow7 HH.out.2)
        clear hown7 hgrow7 ho v0 v1
        go_wp2
        go_roundw
        case rel => exact ⟨k + 1, by omega, by go_num, ⟨by rw [take_snoc_mem ms k hlt, remL_snoc, HL.out, HM.out, if_pos (show (hasK ks (idOf m) || hasK lvs (idOf m)) = true from HCc.out)]; exact HR.out⟩⟩
        case measure => simp [intOf]; omega
      | false =>
        go_wp2
        go_roundw
        case rel => exact ⟨k + 1, by omega, by go_num, ⟨by rw [take_snoc_mem ms k hlt, remL_snoc, HL.out, HM.out, if_neg (by rw [show (hasK ks (idOf m) || hasK lvs (idOf m)) = false from HCc.out]; decide), List.append_nil]; exact ⟨H6.out.1, H6.out.2.1⟩⟩⟩
        case measure => simp [intOf]; omega
    · obtain rfl : k = ms.length := by omega
      rw [List.take_length] at hinv
      have c34 : wr.cell? ⟨nb, 34, none⟩ = some lv := (hinv.out.1.nk.hN.cell 34).trans h34
      have f34 := hinv.out.1.nk.hN.frozen 34
      have hln := hinv.out.1.nk.hN.lt
      obtain ⟨ao, cpl, rfl, _⟩ := own_shape (own_base hinv.out.2 (Nat.zero_le _))
      have hne : ¬ ((remL ks lvs ms).length : Int) = 0 := by have := HH.out.1; omega
      go_wp2
      go_ret
      exact ⟨wr.heap.size, _, rfl, choose_end hinv.out.1 hinv.out.2⟩
end Go.Proofs.Ybulkcdnw
