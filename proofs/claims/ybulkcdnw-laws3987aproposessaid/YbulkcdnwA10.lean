/-
  (*Node).begin, its walk.
-/
import Derived.Test.YbulkcdnwA9
namespace Go.Proofs.Ybulkcdnw
open Go.RowKit
set_option maxRecDepth 100000
set_option linter.unusedSimpArgs false
set_option linter.unusedVariables false
attribute [local go_sem ↓] Go.wp_at_zero Go.wp_at_succ
attribute [local go_sem] mk44 build51

theorem begin_fresh {nm : ByteArray} {inc : Int} {ks : List (ByteArray × Int)} {ms : List Mem} (hd : ∀ i j, i < ms.length → j < ms.length → (ms.getD i mem0).nm.toList = (ms.getD j mem0).nm.toList → i = j) {k : Nat} (hk : k < ms.length) :
    hasK ((tgts nm inc ks (ms.take k)).map idOf) ((ms.getD k mem0).nm, (ms.getD k mem0).inc) = false := by
  rw [hasK, List.any_eq_false]
  intro x hx
  obtain ⟨m, hm, rfl⟩ := List.mem_map.1 hx
  have hm2 := (List.mem_filter.1 hm).1
  obtain ⟨i, hi, e⟩ := List.getElem_of_mem hm2
  have hik : i < k := by simp at hi; omega
  have e2 : ms.getD i mem0 = m := by
    rw [List.getElem_take] at e
    simp [List.getD, e, show i < ms.length by omega]
  intro h
  have hn : (ms.getD k mem0).nm.toList = m.nm.toList := by
    unfold sameId idOf at h
    simp at h
    simpa using h.1
  have := hd k i hk (by omega) (by rw [e2]; exact hn)
  omega

theorem begin_map {w W5 : World} {base nb mb sb AB RB VB : Nat} {N M C : Array Value} {ms : List Mem} {ks : List (ByteArray × Int)} {nm ad gr : ByteArray} {inc nx d : Int} {va vr : Value} {l : List Mem} {q q' : List (ByteArray × Int)} (hsb : sb < w.heap.size) (h : BI w W5 base nb mb sb AB RB N M ms ks nm inc ad gr nx va vr d l q) (hV : Blk W5 VB 35 C) (hv : VB < W5.heap.size) :
    BI w (World.mapSet W5.drew AB q') base nb mb sb AB RB N M ms ks nm inc ad gr nx va vr d l q' ∧ Blk (World.mapSet W5.drew AB q') VB 35 C ∧ VB < (World.mapSet W5.drew AB q').heap.size := by
  have hd := h.later ((Kept.refl (fun _ => True) W5).drew)
  have K : Kept (fun k => k ≠ AB) W5 (World.mapSet W5.drew AB q') := kept_mapSet ((Kept.refl _ W5).drew) (by simp) q'
  exact ⟨hd.mapped hd.kept.size (by have := h.hab; omega) q', hV.kept K ((h.mp.ne hV).symm), Nat.lt_of_lt_of_le hv K.size⟩
theorem begin_cells {W6 w7 : World} {base nb mb sb VB RB n : Nat} {N1 M A : Array Value} {ms : List Mem} {ks : List (ByteArray × Int)} {sus : Value} {xs : List Value} {a b c d : Value} (hH : NodeOk W6 nb mb sb N1 M ms ks) (hV : Blk W6 VB 35 #[a, b, c, d]) (hR : Blk W6 RB 51 A) (hs : Sent W6.drew w7 nb mb sb base N1 M ms ks sus n xs) :
    w7.cell? ⟨VB, 0, none⟩ = some a ∧ w7.cell? ⟨VB, 1, none⟩ = some b ∧ w7.cell? ⟨VB, 2, none⟩ = some c ∧ w7.cell? ⟨VB, 3, none⟩ = some d ∧ w7.cell? ⟨RB, 0, none⟩ = A[0]? := by
  have P : ∀ {k t c}, Blk W6 k t c → t ≠ 72 → t ≠ 83 → k < base ∨ (k ≠ nb ∧ ∀ c, W6.drew.heap[k]? ≠ some (.cells c 83 (0, 0))) := fun {k t c} hb e1 e2 =>
    Or.inr ⟨hb.ne hH.hN e1, fun c' hc => by
      have := (show W6.heap[k]? = _ from hb).symm.trans hc
      simp at this
      exact e2 this.2⟩
  have v := (show Blk W6.drew VB 35 #[a, b, c, d] from hV).kept hs.kept (P hV (by decide) (by decide))
  have r := (show Blk W6.drew RB 51 A from hR).kept hs.kept (P hR (by decide) (by decide))
  exact ⟨v.cell 0, v.cell 1, v.cell 2, v.cell 3, r.cell 0⟩

set_option maxHeartbeats 4000000 in
theorem begin_any (base nb mb sb : Nat) (N M : Array Value) (ms : List Mem) (ks : List (ByteArray × Int)) (nm ad st gr t : ByteArray) (inc u num d : Int) (f : Bool) (oa ob : Option Addr) (na ca nr cr : Nat) (w : World)
    (hH : NodeOk w nb mb sb N M ms ks) (hbase : base ≤ nb) (hl : ms.length ≤ 1000)
    (h0 : N[0]? = some (.string nm)) (h1 : N[1]? = some (.int .u64 inc)) (h2 : N[2]? = some (.string ad)) (h4 : N[4]? = some (.string st)) (h20 : N[20]? = some (.string gr)) (h61 : N[61]? = some (.slice none 0 0))
    (old : Value) (h35 : N[35]? = some old) (h6 : N[6]? = some (.int .i64 d)) (h9 : N[9]? = some (.int .u64 0)) (h10 : N[10]? = some (.int .i64 0)) (h11 : N[11]? = some (.pointer none)) (h16 : N[16]? = some (.int .u64 num)) 
    (h17 : N[17]? = some (.slice (some ⟨mb, 0, none⟩) ms.length ms.length)) (h39 : N[39]? = some (.map (some sb))) (h50 : N[50]? = some (.string t)) (h51 : N[51]? = some (.int .u64 u)) (h52 : N[52]? = some (.bool f))
    (d0 : -9223372036854775808 ≤ d) (d1 : d ≤ 9223372036854775807) (hst : (st.toList == [106, 111, 105, 110, 105, 110, 103]) = false) (hdis : ∀ i j, i < ms.length → j < ms.length → (ms.getD i mem0).nm.toList = (ms.getD j mem0).nm.toList → i = j) :
    Calls Yba.prog 21 #[.pointer (some ⟨nb, 0, none⟩), .agg #[.slice oa na ca, .slice ob nr cr], .bool false] w fun e w' => e = .returned (.tuple #[]) ∧ ∃ AB RB, BI w w' base nb mb sb AB RB N M ms ks nm inc ad gr (IntKind.u64.wrap (num + 1)) (.slice oa na ca) (.slice ob nr cr) d ms ((tgts nm inc ks ms).map idOf) := by
  have c6 : w.cell? ⟨nb, 6, none⟩ = some (.int .i64 d) := (hH.hN.cell 6).trans h6
  have c9 : w.cell? ⟨nb, 9, none⟩ = some (.int .u64 0) := (hH.hN.cell 9).trans h9
  have c10 : w.cell? ⟨nb, 10, none⟩ = some (.int .i64 0) := (hH.hN.cell 10).trans h10
  have c11 : w.cell? ⟨nb, 11, none⟩ = some (.pointer none) := (hH.hN.cell 11).trans h11
  have c16 : w.cell? ⟨nb, 16, none⟩ = some (.int .u64 num) := (hH.hN.cell 16).trans h16
  have ltn := hH.hN.lt
  have HH := Shy.mk hH
  have HD := Shy.mk hdis
  clear hH hdis
  go_enter Yba.func21, Yba.ntmps21
  go_upto_region 1 with fail
  go_cut [6] from 9 to 28 (fun r wx => ∃ RB AB, r = .pointer (some ⟨RB, 0, none⟩) ∧ Shy (Bg w wx AB RB (IntKind.u64.wrap (num + 1)) (.slice oa na ca) (.slice ob nr cr) d))
  case first =>
    go_region_held3 (fun w' => w'.cell? ⟨nb, 16, none⟩ = some (.int .u64 num) ∧ w'.cell? ⟨nb, 6, none⟩ = some (.int .i64 d) ∧ w'.cell? ⟨w.heap.size, 0, none⟩ = some (.slice oa na ca) ∧ w'.cell? ⟨w.heap.size, 1, none⟩ = some (.slice ob nr cr) ∧ w'.cell? ⟨nb, 9, none⟩ = some (.int .u64 0) ∧ w'.cell? ⟨nb, 10, none⟩ = some (.int .i64 0) ∧ w'.cell? ⟨nb, 11, none⟩ = some (.pointer none)) (simp [go_sem, *])
      ((go_at_call 11; refine (add_exp d _ d0 d1).mono ?_; rintro e w1 ⟨rfl, hk1⟩; have q1 : w1.cell? ⟨nb, 16, none⟩ = some (.int .u64 num) := (hk1.cellT (by simp <;> omega)).trans (by simp [go_sem, *]); have q2 : w1.cell? ⟨nb, 6, none⟩ = some (.int .i64 d) := (hk1.cellT (by simp <;> omega)).trans (by simp [go_sem, *]); have q3 : w1.cell? ⟨w.heap.size, 0, none⟩ = some (.slice oa na ca) := (hk1.cellT (by simp <;> omega)).trans (by simp [go_sem, *]); have q4 : w1.cell? ⟨w.heap.size, 1, none⟩ = some (.slice ob nr cr) := (hk1.cellT (by simp <;> omega)).trans (by simp [go_sem, *]); have q5 : w1.cell? ⟨nb, 9, none⟩ = some (.int .u64 0) := (hk1.cellT (by simp <;> omega)).trans (by simp [go_sem, *]); have q6 : w1.cell? ⟨nb, 10, none⟩ = some (.int .i64 0) := (hk1.cellT (by simp <;> omega)).trans (by simp [go_sem, *]); have q7 : w1.cell? ⟨nb, 11, none⟩ = some (.pointer none) := (hk1.cellT (by simp <;> omega)).trans (by simp [go_sem, *]); have qz := hk1.size; have qy : w.heap.size < w1.heap.size := (by have := hk1.size; simp at this; omega); have qx : nb < w1.heap.size := (by have := hk1.size; simp at this; omega); have qa : ∀ (o : Obj) (j : Nat), (w1.alloc o).cell? ⟨nb, j, none⟩ = w1.cell? ⟨nb, j, none⟩ := (fun o j => alloc_cell w1 o nb j qx); have qb : ∀ (o : Obj) (j : Nat), (w1.alloc o).cell? ⟨w.heap.size, j, none⟩ = w1.cell? ⟨w.heap.size, j, none⟩ := (fun o j => alloc_cell w1 o _ j qy); have HK1 := Shy.mk hk1; clear hk1 qz))
    all_goals go_wp2
    all_goals go_meet
    · exact ⟨_, _, rfl, ⟨bg1 HK1.out⟩⟩
    · exact ⟨_, _, rfl, ⟨bg2 HK1.out⟩⟩
  case rest =>
  obtain ⟨RB, AB, rfl, HB⟩ := hcut
  obtain ⟨w2, hw2⟩ : ∃ w2, w2 = wc := ⟨_, rfl⟩
  subst hw2
  have hN2 := HH.out.hN.kept HB.out.kept trivial
  have x35 : w2.cell? ⟨nb, 35, none⟩ = some old := (hN2.cell 35).trans h35
  have f35 := hN2.frozen 35
  have x17 : w2.cell? ⟨nb, 17, none⟩ = some (.slice (some ⟨mb, 0, none⟩) ms.length ms.length) := (hN2.cell 17).trans h17
  clear hN2
  have HI : Shy (BI w (w2.setCell ⟨nb, 35, none⟩ (.pointer (some ⟨RB, 0, none⟩))) base nb mb sb AB RB N M ms ks nm inc ad gr (IntKind.u64.wrap (num + 1)) (.slice oa na ca) (.slice ob nr cr) d [] []) := ⟨bi_start HH.out HB.out hbase h35 h61 h50 h51⟩
  clear c6 c9 c10 c11 c16 ltn
  go_upto_region 4 with fail
  clear x35 f35
  generalize w2.setCell ⟨nb, 35, none⟩ (.pointer (some ⟨RB, 0, none⟩)) = W3 at HI x17 ⊢
  have hls : ms.length ≤ 1000 := hl
  go_loopw [40] (fun i wr => ∃ k : Nat, k ≤ ms.length ∧ i = .int .i64 k ∧ Shy (BI w wr base nb mb sb AB RB N M ms ks nm inc ad gr (IntKind.u64.wrap (num + 1)) (.slice oa na ca) (.slice ob nr cr) d (ms.take k) ((tgts nm inc ks (ms.take k)).map idOf))) (fun i _ => ms.length - (intOf i).toNat)
  case atStart => exact ⟨0, Nat.zero_le _, rfl, HI⟩
  case round =>
    clear HI x17
    obtain ⟨k, hk, rfl, hinv⟩ := hrel
    by_cases hlt : k < ms.length
    · obtain ⟨N1, sv, E, g1, g2, g3, ⟨t1, g4⟩, ⟨u1, g5⟩, g6, g7, g8, g9⟩ := hinv.out.ex
      obtain ⟨m, hm⟩ : ∃ m, ms.getD k mem0 = m := ⟨_, rfl⟩
      have hmem : Shy (wr.cell? ⟨mb, k * 4, none⟩ = some (.string m.nm) ∧ wr.cell? ⟨mb, k * 4 + 1, none⟩ = some (.int .u64 m.inc) ∧ wr.cell? ⟨mb, k * 4 + 1 + 1, none⟩ = some (.string m.ad) ∧ wr.cell? ⟨mb, k * 4 + 1 + 1 + 1, none⟩ = some (.string m.tk)) := ⟨by
        rw [← hm]
        exact OwnM.at (fun j u hu => by rw [g1.hM.cell, ← Array.getElem?_toList, g1.hMs]; exact hu) hlt⟩
      obtain ⟨e0, e1, e2, e3⟩ := hmem.out
      have n0 : wr.cell? ⟨nb, 0, none⟩ = some (.string nm) := (g1.hN.cell 0).trans ((g2 0 (by decide) (by decide) (by decide) (by decide)).trans h0)
      have n1 : wr.cell? ⟨nb, 1, none⟩ = some (.int .u64 inc) := (g1.hN.cell 1).trans ((g2 1 (by decide) (by decide) (by decide) (by decide)).trans h1)
      have n39 : wr.cell? ⟨nb, 39, none⟩ = some (.map (some sb)) := (g1.hN.cell 39).trans ((g2 39 (by decide) (by decide) (by decide) (by decide)).trans h39)
      have ltn := g1.hN.lt
      have ltm := g1.hM.lt
      have hlk : ∀ (C : Array Value) (n : Nat), (Instr.lookup 44 (.map (some sb)) (.agg #[.string m.nm, .int .u64 m.inc]) false).run Yba.prog ((wr.alloc (.cells C 35)).drewN n) = .ok (.bool (hasK ks (m.nm, m.inc))) ((wr.alloc (.cells C 35)).drewN n) := fun C n =>
        lk44 (g1.hmp.kept (((Kept.refl (fun _ => True) wr).alloc _).drewN n) trivial) _ _
      have hq := run_eql33
      have HM := Shy.mk hm
      have HN1 := Shy.mk (And.intro g1 (And.intro g2 (And.intro g3 (And.intro g4 (And.intro g5 (And.intro g6 (And.intro g7 (And.intro g8 g9))))))))
      clear hm hmem g1 g2 g3 g4 g5 g6 g7 g8 g9
      go_upto_region 6 with fail
      rcases b1 : (m.nm.toList == nm.toList && m.inc == inc) with _ | _
      · rcases b2 : hasK ks (m.nm, m.inc) with _ | _
        · go_quiet (fail)
          go_upto_region 7 with fail
          have KV : Kept (fun _ => True) wr ((wr.alloc (.cells #[.string m.nm, .int .u64 m.inc, .string m.ad, .string m.tk] 35)).drewN nq) := ((Kept.refl (fun _ => True) wr).alloc _).drewN nq
          have H5 := Shy.mk (hinv.out.later KV)
          have HV : Shy (Blk ((wr.alloc (.cells #[.string m.nm, .int .u64 m.inc, .string m.ad, .string m.tk] 35)).drewN nq) wr.heap.size 35 #[.string m.nm, .int .u64 m.inc, .string m.ad, .string m.tk] ∧ wr.heap.size < ((wr.alloc (.cells #[.string m.nm, .int .u64 m.inc, .string m.ad, .string m.tk] 35)).drewN nq).heap.size) := ⟨Blk.new wr 35 _, by simp⟩
          clear KV hlk hinv HN1 e0 e1 e2 e3 n0 n1 n39 ltn ltm
          generalize (wr.alloc (.cells #[.string m.nm, .int .u64 m.inc, .string m.ad, .string m.tk] 35)).drewN nq = W5 at H5 HV ⊢
          generalize wr.heap.size = VB at HV ⊢
          have z0 : W5.cell? ⟨RB, 0, none⟩ = some (.int .u64 (IntKind.u64.wrap (num + 1))) := H5.out.bR.cell 0
          have z4 : W5.cell? ⟨RB, 4, none⟩ = some (.map (some AB)) := H5.out.bR.cell 4
          have v0 : W5.cell? ⟨VB, 0, none⟩ = some (.string m.nm) := HV.out.1.cell 0
          have v1 : W5.cell? ⟨VB, 1, none⟩ = some (.int .u64 m.inc) := HV.out.1.cell 1
          have hfr := begin_fresh (nm := nm) (inc := inc) (ks := ks) HD.out hlt
          rw [HM.out] at hfr
          have hup : (Instr.mapUpdate 44 (.map (some AB)) (.agg #[.string m.nm, .int .u64 m.inc]) (.bool true)).run Yba.prog W5.drew = .ok () (World.mapSet W5.drew AB ((tgts nm inc ks (ms.take k)).map idOf ++ [(m.nm, m.inc)])) := up44 (by exact H5.out.mp) _ _ hfr
          clear hfr
          go_cut [] from 61 to 66 (fun wx => Shy (BI w wx base nb mb sb AB RB N M ms ks nm inc ad gr (IntKind.u64.wrap (num + 1)) (.slice oa na ca) (.slice ob nr cr) d (ms.take k) ((tgts nm inc ks (ms.take k)).map idOf ++ [(m.nm, m.inc)]) ∧ Blk wx VB 35 #[.string m.nm, .int .u64 m.inc, .string m.ad, .string m.tk] ∧ VB < wx.heap.size))
          case first =>
            go_region_law (fail)
            all_goals go_wp2
            all_goals go_meet
            all_goals exact ⟨begin_map HH.out.hmp.lt H5.out HV.out.1 HV.out.2⟩
          case rest =>
          obtain ⟨W6, hW6⟩ : ∃ W6, W6 = wc := ⟨_, rfl⟩
          subst hW6
          have H6 := hcut
          clear z0 z4 v0 v1 hup H5 HV hcut
          obtain ⟨N1, sv, E, g1, g2, g3, ⟨t1, g4⟩, ⟨u1, g5⟩, g6, g7, g8, g9⟩ := H6.out.1.ex
          have z0 : W6.cell? ⟨RB, 0, none⟩ = some (.int .u64 (IntKind.u64.wrap (num + 1))) := H6.out.1.bR.cell 0
          have v0 : W6.cell? ⟨VB, 0, none⟩ = some (.string m.nm) := H6.out.2.1.cell 0
          have v1 : W6.cell? ⟨VB, 1, none⟩ = some (.int .u64 m.inc) := H6.out.2.1.cell 1
          have v2 : W6.cell? ⟨VB, 2, none⟩ = some (.string m.ad) := H6.out.2.1.cell 2
          have v3 : W6.cell? ⟨VB, 3, none⟩ = some (.string m.tk) := H6.out.2.1.cell 3
          have hElen : E.length ≤ 1000 := by
            have e1 := congrArg List.length g7
            rw [List.length_map] at e1
            have a1 : (tgts nm inc ks (ms.take k)).length ≤ (ms.take k).length := List.length_filter_le _ _
            have a2 : (ms.take k).length ≤ k := List.length_take_le _ _
            omega
          have HX := Shy.mk (And.intro g1 (And.intro g2 (And.intro g3 (And.intro g4 (And.intro g5 (And.intro g6 (And.intro g7 (And.intro g8 (And.intro g9 hElen)))))))))
          clear g1 g2 g3 g4 g5 g6 g7 g8 g9
          go_upto_region 9 with fail
          go_region_held3 (fun w' => w'.cell? ⟨VB, 0, none⟩ = some (.string m.nm) ∧ w'.cell? ⟨VB, 1, none⟩ = some (.int .u64 m.inc) ∧ w'.cell? ⟨VB, 2, none⟩ = some (.string m.ad) ∧ w'.cell? ⟨VB, 3, none⟩ = some (.string m.tk) ∧ w'.cell? ⟨RB, 0, none⟩ = some (.int .u64 (IntKind.u64.wrap (num + 1)))) (simp [go_sem, *])
            ((go_at_call 41; refine (sendTo_any base nb mb sb E.length N1 M ms ks nm ad st gr t1 inc u1 f sv (E.flatMap (env3 nm inc ad gr (IntKind.u64.wrap (num + 1)) w.heap.size)) m _ _ _ _ _ _ _ _ _ _ _ _ _ _ _ _ _ _ _ (by exact HX.out.1.kept ((Kept.refl (fun _ => True) W6).drew) trivial trivial trivial) hbase hl ((HX.out.2.1 0 (by decide) (by decide) (by decide) (by decide)).trans h0) ((HX.out.2.1 1 (by decide) (by decide) (by decide) (by decide)).trans h1) ((HX.out.2.1 2 (by decide) (by decide) (by decide) (by decide)).trans h2) ((HX.out.2.1 4 (by decide) (by decide) (by decide) (by decide)).trans h4) ((HX.out.2.1 20 (by decide) (by decide) (by decide) (by decide)).trans h20) HX.out.2.2.2.2.2.1 ((HX.out.2.1 17 (by decide) (by decide) (by decide) (by decide)).trans h17) ((HX.out.2.1 39 (by decide) (by decide) (by decide) (by decide)).trans h39) HX.out.2.2.2.1 HX.out.2.2.2.2.1 ((HX.out.2.1 52 (by decide) (by decide) (by decide) (by decide)).trans h52) (by exact own_kept HX.out.2.2.2.2.2.2.2.1 ((Kept.refl (fun _ => True) W6).drew) (fun _ _ _ _ => trivial)) (by have := HX.out.2.2.2.2.2.2.2.2.2; omega) (by simp [Value.oneCell']) (by simp [Value.oneCell']) (by simp [Value.oneCell']) hst b2).mono ?_; rintro e w7 ⟨rfl, sus, told, ht, h7⟩; obtain ⟨y0, y1, y2, y3, y4⟩ := begin_cells HX.out.1 H6.out.2.1 H6.out.1.bR h7; have y5 : w7.cell? ⟨RB, 0, none⟩ = some (.int .u64 (IntKind.u64.wrap (num + 1))) := y4; have HS7 := Shy.mk (And.intro h7 ht); clear h7 y4 ht))
          go_wp2
          go_roundw
          case rel =>
            have hs : sel nm inc ks m = true := by unfold sel; rw [b1, b2]; rfl
            refine ⟨k + 1, by omega, by go_num, ⟨?_⟩⟩
            rw [take_snoc_mem ms k hlt, HM.out, tgts_snoc, if_pos hs, List.map_append]
            exact (H6.out.1.later ((Kept.refl (fun _ => True) W6).drew)).sent hs hbase HX.out.2.1 HX.out.2.2.1 HX.out.2.2.2.2.2.1 HX.out.2.2.2.2.2.2.1 (fun e he => ⟨(HX.out.2.2.2.2.2.2.2.2.1 e he).1.kept ((Kept.refl (fun _ => True) W6).drew), (HX.out.2.2.2.2.2.2.2.2.1 e he).2⟩) (HX.out.1.hN.kept ((Kept.refl (fun _ => True) W6).drew) trivial) HS7.out.2 HS7.out.1
          case measure => simp [intOf]; omega
        · go_quiet (fail)
          go_wp2
          go_roundw
          case rel => exact ⟨k + 1, by omega, by go_num, ⟨by rw [take_snoc_mem ms k hlt, HM.out]; have hs : sel nm inc ks m = false := (by unfold sel; rw [b2]; simp); rw [tgts_snoc, if_neg (by rw [hs]; decide), List.append_nil]; exact (hinv.out.later (((Kept.refl (fun _ => True) wr).alloc _).drewN _)).skip hs⟩⟩
          case measure => simp [intOf]; omega
      · go_quiet (fail)
        go_wp2
        go_roundw
        case rel => exact ⟨k + 1, by omega, by go_num, ⟨by rw [take_snoc_mem ms k hlt, HM.out]; have hs : sel nm inc ks m = false := (by unfold sel; rw [b1]; simp); rw [tgts_snoc, if_neg (by rw [hs]; decide), List.append_nil]; exact (hinv.out.later (((Kept.refl (fun _ => True) wr).alloc _).drewN _)).skip hs⟩⟩
        case measure => simp [intOf]; omega
    · go_wp2
      go_end0
      obtain rfl : k = ms.length := by omega
      rw [List.take_length] at hinv
      exact ⟨rfl, AB, RB, hinv.out⟩
end Go.Proofs.Ybulkcdnw
