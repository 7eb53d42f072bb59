/-
  (*Node).propose, its walk.
-/
import Derived.Test.YbulkcdnwA14
namespace Go.Proofs.Ybulkcdnw
open Go.RowKit
set_option maxRecDepth 100000
set_option linter.unusedSimpArgs false
set_option linter.unusedVariables false
attribute [local go_sem ↓] Go.wp_at_zero Go.wp_at_succ

/-- Behind the first two choices: q is the update, if there is one. -/
def W1 (w wx : World) (ap : Option Addr) (P : List Prp) (nx : Int) (q : Option Addr) : Prop :=
  Kept (fun _ => True) w wx ∧ ((ap ≠ none ∧ q = ap) ∨ (ap = none ∧ ((bst P nx P.length = none ∧ q = none) ∨ ∃ j ub, bst P nx P.length = some j ∧ q = some ⟨ub, 0, none⟩ ∧ Blk wx ub 39 #[.slice (P.getD j prp0).oa (P.getD j prp0).na (P.getD j prp0).ca, .slice (P.getD j prp0).ob (P.getD j prp0).nr (P.getD j prp0).cr])))
/-- Behind all three. -/
def W2 (w wx : World) (nb mb sb ub : Nat) (ap : Option Addr) (P : List Prp) (nx : Int) (ks lvs : List (ByteArray × Int)) (ms : List Mem) (N N0 M : Array Value) (oa : Option Addr) (na ca : Nat) (ob : Option Addr) (nr cr : Nat) : Prop :=
  Way w wx ap P nx ks lvs ms N N0 (.slice oa na ca) (.slice ob nr cr) ∧ Blk wx ub 39 #[.slice oa na ca, .slice ob nr cr] ∧ NodeOk wx nb mb sb N0 M ms ks ∧ Kept (fun k => k ≠ nb) w wx

theorem w1_of {w w1 : World} {P : List Prp} {nx : Int} {e : Ending} (hk : Kept (fun _ => True) w w1) (hn : bst P nx P.length = none → e = .returned (.pointer none))
    (hs : ∀ j, bst P nx P.length = some j → ∃ ub, e = .returned (.pointer (some ⟨ub, 0, none⟩)) ∧ Blk w1 ub 39 #[.slice (P.getD j prp0).oa (P.getD j prp0).na (P.getD j prp0).ca, .slice (P.getD j prp0).ob (P.getD j prp0).nr (P.getD j prp0).cr]) : ∃ q, e = .returned (.pointer q) ∧ Shy (W1 w w1 none P nx q) := by
  cases hb : bst P nx P.length with
  | none => exact ⟨none, hn hb, ⟨hk, .inr ⟨rfl, .inl ⟨hb, rfl⟩⟩⟩⟩
  | some j =>
    obtain ⟨ub, h1, h2⟩ := hs j hb
    exact ⟨_, h1, ⟨hk, .inr ⟨rfl, .inr ⟨j, ub, hb, rfl, h2⟩⟩⟩⟩

section
variable {w wx : World} {nb mb sb OB pb : Nat} {N N0 M O A : Array Value} {ms : List Mem} {ks lvs : List (ByteArray × Int)} {P : List Prp} {ap : Option Addr} {lv : Value} {nx : Int}
theorem w1_none (h : W1 w wx ap P nx none) : ap = none ∧ bst P nx P.length = none := by
  rcases h.2 with ⟨h1, h2⟩ | ⟨h1, ⟨h2, _⟩ | ⟨j, ub, _, h2, _⟩⟩
  · exact absurd h2.symm h1
  · exact ⟨h1, h2⟩
  · cases h2
theorem w2_of {a : Addr} (hP : Pre w nb mb sb OB pb N M O A ms ks lvs P ap lv) (h : W1 w wx ap P nx (some a)) : ∃ ub N0 oa na ca ob nr cr, a = ⟨ub, 0, none⟩ ∧ W2 w wx nb mb sb ub ap P nx ks lvs ms N N0 M oa na ca ob nr cr := by
  rcases h.2 with ⟨h1, h2⟩ | ⟨h1, ⟨h2, h3⟩ | ⟨j, ub, hb, h2, h3⟩⟩
  · obtain ⟨ab, oa, na, ca, ob, nr, cr, rfl, hb⟩ := hP.hap a h2.symm
    exact ⟨ab, N, oa, na, ca, ob, nr, cr, rfl, .inl ⟨ab, h2.symm, hb, rfl⟩, hb.kept h.1 trivial, hP.nk.kept h.1 trivial trivial trivial, h.1.mono fun _ _ _ => trivial⟩
  · cases h3
  · cases h2
    exact ⟨ub, N, _, _, _, _, _, _, rfl, .inr (.inl ⟨h1, ⟨j, hb, rfl, rfl⟩, rfl⟩), h3, hP.nk.kept h.1 trivial trivial trivial, h.1.mono fun _ _ _ => trivial⟩
theorem w2_choose {w1 w2 : World} {ub nr cr : Nat} {ob : Option Addr} (hb : bst P nx P.length = none) (hk : Kept (fun _ => True) w w1) (h1 : Blk w2 ub 39 #[.slice none 0 0, .slice ob nr cr]) (h2 : OwnI w2 (.slice ob nr cr) (remL ks lvs ms)) (h3 : NodeOk w2 nb mb sb (N.setIfInBounds 34 (.slice none 0 0)) M ms ks) (h4 : Kept (fun k => k ≠ nb) w1 w2) :
    W2 w w2 nb mb sb ub none P nx ks lvs ms N (N.setIfInBounds 34 (.slice none 0 0)) M none 0 0 ob nr cr :=
  ⟨.inr (.inr ⟨rfl, hb, rfl, h2, rfl⟩), h1, h3, (hk.mono fun _ _ _ => trivial).trans h4⟩
theorem way_N {va vr : Value} (h : Way w wx ap P nx ks lvs ms N N0 va vr) : ∀ j, j ≠ 34 → N0[j]? = N[j]? := by
  intro j hj
  rcases h with ⟨_, _, _, rfl⟩ | ⟨_, _, rfl⟩ | ⟨_, _, _, _, rfl⟩
  · rfl
  · rfl
  · rw [Array.getElem?_setIfInBounds, if_neg (by omega)]
end

theorem BF.c35 {w wr : World} {base nb mb sb AB RB : Nat} {N M R : Array Value} {ms : List Mem} {ks : List (ByteArray × Int)} {nm ad gr : ByteArray} {inc nx : Int} {va vr : Value} {l : List Mem} {q : List (ByteArray × Int)} (h : BF w wr base nb mb sb AB RB N M ms ks nm inc ad gr nx va vr l q R) : wr.cell? ⟨nb, 35, none⟩ = some (.pointer (some ⟨RB, 0, none⟩)) := by
  obtain ⟨N1, sv, E, h1, h2, h3, _⟩ := h.ex
  exact (h1.hN.cell 35).trans h3
theorem old_kept {w wx w3 : World} {base nb mb sb AB RB OB : Nat} {N N0 M R O : Array Value} {ms : List Mem} {ks : List (ByteArray × Int)} {nm ad gr : ByteArray} {inc nx : Int} {va vr : Value} {l : List Mem} {q : List (ByteArray × Int)} (hN : Blk w nb 72 N) (hO : Blk w OB 51 O) (hk : Kept (fun k => k ≠ nb) w wx) (h : BF wx w3 base nb mb sb AB RB N0 M ms ks nm inc ad gr nx va vr l q R) : Blk w3 OB 51 O ∧ OB < RB := by
  have h1 := hO.kept hk (hO.ne hN (by decide))
  refine ⟨h1.kept h.kept (Or.inr ⟨hO.ne hN (by decide), fun c hc => ?_⟩), ?_⟩
  · have := (show wx.heap[OB]? = _ from h1).symm.trans hc
    simp at this
  · have e1 := h1.lt
    have e2 := h.hrb
    omega

set_option maxHeartbeats 4000000 in
theorem propose_any (base nb mb sb OB pb : Nat) (N M O A : Array Value) (ms : List Mem) (ks lvs : List (ByteArray × Int)) (P : List Prp) (ap : Option Addr) (lv : Value) (nm ad st gr t : ByteArray) (inc u num d : Int) (f : Bool) (w : World)
    (hP : Pre w nb mb sb OB pb N M O A ms ks lvs P ap lv) (hbase : base ≤ nb) (hl : ms.length ≤ 1000) (hlP : P.length ≤ 1000) (hlv : lvs.length ≤ 1000)
    (h0 : N[0]? = some (.string nm)) (h1 : N[1]? = some (.int .u64 inc)) (h2 : N[2]? = some (.string ad)) (h4 : N[4]? = some (.string st)) (h20 : N[20]? = some (.string gr)) (h61 : N[61]? = some (.slice none 0 0))
    (h35 : N[35]? = some (.pointer (some ⟨OB, 0, none⟩))) (h6 : N[6]? = some (.int .i64 d)) (h9 : N[9]? = some (.int .u64 0)) (h10 : N[10]? = some (.int .i64 0)) (h11 : N[11]? = some (.pointer none)) (h16 : N[16]? = some (.int .u64 num))
    (h17 : N[17]? = some (.slice (some ⟨mb, 0, none⟩) ms.length ms.length)) (h39 : N[39]? = some (.map (some sb))) (h50 : N[50]? = some (.string t)) (h51 : N[51]? = some (.int .u64 u)) (h52 : N[52]? = some (.bool f)) (h33 : N[33]? = some (.slice none 0 0)) (h34 : N[34]? = some lv)
    (d0 : -9223372036854775808 ≤ d) (d1 : d ≤ 9223372036854775807) (hst : (st.toList == [106, 111, 105, 110, 105, 110, 103]) = false) (hdis : ∀ i j, i < ms.length → j < ms.length → (ms.getD i mem0).nm.toList = (ms.getD j mem0).nm.toList → i = j)
    (hne : ap = none → bst P (IntKind.u64.wrap (num + 1)) P.length = none → 0 < (remL ks lvs ms).length) :
    Calls Yba.prog 8 #[.pointer (some ⟨nb, 0, none⟩)] w fun e w' => e = .returned (.tuple #[]) ∧ ∃ wx N0 va vr AB RB, Way w wx ap P (IntKind.u64.wrap (num + 1)) ks lvs ms N N0 va vr ∧ Kept (fun k => k ≠ nb) w wx ∧ Blk wx nb 72 N0 ∧ (∃ oa na ca ob nr cr, va = .slice oa na ca ∧ vr = .slice ob nr cr) ∧
      BF wx w' base nb mb sb AB RB N0 M ms ks nm inc ad gr (IntKind.u64.wrap (num + 1)) va vr ms ((tgts nm inc ks ms).map idOf) (((roundA (IntKind.u64.wrap (num + 1)) va vr AB d).setIfInBounds 13 (.slice (some ⟨pb, 0, none⟩) P.length P.length)).setIfInBounds 12 (.pointer ap)) := by
  have c35 : w.cell? ⟨nb, 35, none⟩ = some (.pointer (some ⟨OB, 0, none⟩)) := (hP.nk.hN.cell 35).trans h35
  have o12 : w.cell? ⟨OB, 12, none⟩ = some (.pointer ap) := (hP.bO.cell 12).trans hP.o12
  have HP := Shy.mk hP
  have HD := Shy.mk (And.intro hdis hne)
  clear hdis hne hP
  go_enter Yba.func8, Yba.ntmps8
  go_upto_region 2 with fail
  go_cut [14] from 4 to 13 (fun c wx => c = .bool ap.isNone ∧ w = wx)
  case first =>
    cases ap with
    | none => go_wp2; go_meet; exact ⟨rfl, rfl⟩
    | some a => go_wp2; go_meet; exact ⟨rfl, rfl⟩
  case rest =>
  obtain ⟨rfl, rfl⟩ := hcut
  go_upto_if 14 with fail
  go_cut [3] from 15 to 25 (fun v wx => ∃ q, v = .pointer q ∧ Shy (W1 w wx ap P (IntKind.u64.wrap (num + 1)) q))
  case first =>
    cases ap with
    | some a =>
      go_wp2
      go_meet
      exact ⟨_, rfl, ⟨Kept.refl _ _, .inl ⟨by simp, rfl⟩⟩⟩
    | none =>
      have o13 : w.cell? ⟨OB, 13, none⟩ = some (.slice (some ⟨pb, 0, none⟩) P.length P.length) := (HP.out.bO.cell 13).trans HP.out.o13
      have c16 : w.cell? ⟨nb, 16, none⟩ = some (.int .u64 num) := (HP.out.nk.hN.cell 16).trans h16
      go_upto_region 3 with fail
      go_region_held3 (fun w' => w'.cell? ⟨OB, 13, none⟩ = some (.slice (some ⟨pb, 0, none⟩) P.length P.length) ∧ w'.cell? ⟨nb, 16, none⟩ = some (.int .u64 num)) (simp [go_sem, *])
        ((go_at_call 19; refine (latest_any pb A P (IntKind.u64.wrap (num + 1)) _ (by exact HP.out.bA) HP.out.hA hlP).mono ?_; rintro e w1 ⟨hk1, hn1, hs1⟩; have q1 : w1.cell? ⟨OB, 13, none⟩ = some (.slice (some ⟨pb, 0, none⟩) P.length P.length) := ((HP.out.bO.kept (⟨hk1.os, hk1.tape, hk1.output, hk1.size, hk1.block⟩ : Kept (fun _ => True) w w1) trivial).cell 13).trans HP.out.o13; have q2 : w1.cell? ⟨nb, 16, none⟩ = some (.int .u64 num) := ((HP.out.nk.hN.kept (⟨hk1.os, hk1.tape, hk1.output, hk1.size, hk1.block⟩ : Kept (fun _ => True) w w1) trivial).cell 16).trans h16; obtain ⟨q, rfl, HW⟩ : ∃ q, e = .returned (.pointer q) ∧ Shy (W1 w w1 none P (IntKind.u64.wrap (num + 1)) q) := w1_of ⟨hk1.os, hk1.tape, hk1.output, hk1.size, hk1.block⟩ hn1 hs1; clear hk1 hn1 hs1))
      go_wp2
      go_meet
      exact ⟨_, rfl, HW⟩
  case rest =>
  obtain ⟨q, rfl, H1⟩ := hcut
  obtain ⟨w1, hw1⟩ : ∃ w1, w1 = wc := ⟨_, rfl⟩
  subst hw1
  clear c35 o12
  go_upto_region 4 with fail
  go_cut [27] from 15 to 26 (fun c wx => c = .bool q.isNone ∧ w1 = wx)
  case first =>
    cases q with
    | none => go_wp2; go_meet; exact ⟨rfl, rfl⟩
    | some a => go_wp2; go_meet; exact ⟨rfl, rfl⟩
  case rest =>
  obtain ⟨rfl, rfl⟩ := hcut
  go_upto_if 27 with fail
  go_cut [3] from 28 to 29 (fun v wx => ∃ ub N0 oa na ca ob nr cr, v = .pointer (some ⟨ub, 0, none⟩) ∧ Shy (W2 w wx nb mb sb ub ap P (IntKind.u64.wrap (num + 1)) ks lvs ms N N0 M oa na ca ob nr cr))
  case first =>
    cases q with
    | some a =>
      go_wp2
      go_meet
      obtain ⟨ub, N0, oa, na, ca, ob, nr, cr, rfl, h⟩ := w2_of HP.out H1.out
      exact ⟨ub, N0, oa, na, ca, ob, nr, cr, rfl, ⟨h⟩⟩
    | none =>
      obtain ⟨rfl, hb⟩ := w1_none H1.out
      have hk1 := H1.out.1
      have HC := Shy.mk (choose_any nb mb sb N M ms ks lvs lv w1 (HP.out.nk.kept hk1 trivial trivial trivial) hl hlv (HP.out.ol.kept hk1) h17 h39 h33 h34 (HD.out.2 rfl hb))
      clear hk1
      go_wp2_with (go_at_call 20; refine HC.out.mono ?_; rintro e w2 ⟨ub, vr, rfl, hc1, hc2, hc3, hc4⟩; obtain ⟨ob, cr, rfl, _⟩ := own_shape hc2; have H2 := Shy.mk (w2_choose hb H1.out.1 hc1 hc2 hc3 hc4); clear hc1 hc2 hc3 hc4)
      go_meet
      exact ⟨_, _, _, _, _, _, _, _, rfl, H2⟩
  case rest =>
  obtain ⟨ub, N0, oa, na, ca, ob, nr, cr, rfl, H2⟩ := hcut
  obtain ⟨wx, hwx⟩ : ∃ wx, wx = wc := ⟨_, rfl⟩
  subst hwx
  have hN0 : ∀ j, j ≠ 34 → N0[j]? = N[j]? := way_N H2.out.1
  have HC := Shy.mk (begin_any base nb mb sb N0 M ms ks nm ad st gr t inc u num d f oa ob na ca nr cr wx H2.out.2.2.1 hbase hl ((hN0 0 (by decide)).trans h0) ((hN0 1 (by decide)).trans h1) ((hN0 2 (by decide)).trans h2) ((hN0 4 (by decide)).trans h4) ((hN0 20 (by decide)).trans h20) ((hN0 61 (by decide)).trans h61) _ ((hN0 35 (by decide)).trans h35) ((hN0 6 (by decide)).trans h6) ((hN0 9 (by decide)).trans h9) ((hN0 10 (by decide)).trans h10) ((hN0 11 (by decide)).trans h11) ((hN0 16 (by decide)).trans h16)
    ((hN0 17 (by decide)).trans h17) ((hN0 39 (by decide)).trans h39) ((hN0 50 (by decide)).trans h50) ((hN0 51 (by decide)).trans h51) ((hN0 52 (by decide)).trans h52) d0 d1 hst HD.out.1)
  have y0 : wx.cell? ⟨ub, 0, none⟩ = some (.slice oa na ca) := H2.out.2.1.cell 0
  have y1 : wx.cell? ⟨ub, 1, none⟩ = some (.slice ob nr cr) := H2.out.2.1.cell 1
  clear hN0
  go_upto_region 7 with (go_at_call 21; refine HC.out.mono ?_; rintro e w3 ⟨rfl, AB, RB, hB⟩; have H3 := Shy.mk hB.toF; clear hB)
  clear y0 y1 HC
  have HO3 : Shy (Blk w3 OB 51 O ∧ OB < RB) := ⟨old_kept HP.out.nk.hN HP.out.bO H2.out.2.2.2 H3.out⟩
  have z35 : w3.cell? ⟨nb, 35, none⟩ = some (.pointer (some ⟨RB, 0, none⟩)) := H3.out.c35
  have zo13 : w3.cell? ⟨OB, 13, none⟩ = some (.slice (some ⟨pb, 0, none⟩) P.length P.length) := (HO3.out.1.cell 13).trans HP.out.o13
  have zr13 : w3.cell? ⟨RB, 13, none⟩ = some (.slice none 0 0) := H3.out.bR.cell 13
  have fr13 := H3.out.bR.frozen 13
  go_cut [] from 35 to 45 (fun wy => Shy (BF wx wy base nb mb sb AB RB N0 M ms ks nm inc ad gr (IntKind.u64.wrap (num + 1)) (.slice oa na ca) (.slice ob nr cr) ms ((tgts nm inc ks ms).map idOf) ((roundA (IntKind.u64.wrap (num + 1)) (.slice oa na ca) (.slice ob nr cr) AB d).setIfInBounds 13 (.slice (some ⟨pb, 0, none⟩) P.length P.length)) ∧ Blk wy OB 51 O))
  case first =>
    go_region_law (fail)
    all_goals go_wp2
    all_goals go_meet
    all_goals exact ⟨(H3.out.later ((Kept.refl (fun _ => True) w3).drew)).setR 13 _, (show Blk w3.drew OB 51 O from HO3.out.1).setOther (by have := HO3.out.2; show OB ≠ RB; omega) _⟩
  case rest =>
  obtain ⟨w4, hw4⟩ : ∃ w4, w4 = wc := ⟨_, rfl⟩
  subst hw4
  have H4 := hcut
  have hor := HO3.out.2
  clear z35 zo13 zr13 fr13 hcut HO3 H3
  have z35 : w4.cell? ⟨nb, 35, none⟩ = some (.pointer (some ⟨RB, 0, none⟩)) := H4.out.1.c35
  have zo12 : w4.cell? ⟨OB, 12, none⟩ = some (.pointer ap) := (H4.out.2.cell 12).trans HP.out.o12
  have zr12 : w4.cell? ⟨RB, 12, none⟩ = some (.pointer none) := H4.out.1.bR.cell 12
  have fr12 := H4.out.1.bR.frozen 12
  go_upto_region 8 with fail
  go_region_law (fail)
  all_goals go_wp2
  all_goals go_end0
  all_goals exact ⟨rfl, wx, N0, _, _, AB, RB, H2.out.1, H2.out.2.2.2, H2.out.2.2.1.hN, ⟨_, _, _, _, _, _, rfl, rfl⟩, (H4.out.1.later ((Kept.refl (fun _ => True) w4).drew)).setR 12 _⟩
end Go.Proofs.Ybulkcdnw
