/-
  The law Proposes: its walk.
-/
import Derived.Test.YbulkcdnwFin
namespace Go.Proofs.Ybulkcdnw
open Go.RowKit
set_option maxRecDepth 100000
set_option linter.unusedSimpArgs false
set_option linter.unusedVariables false

attribute [local go_sem] build51o box51o mk59 build56 build58 build61
set_option maxHeartbeats 100000000 in
theorem law_any (view : Int) (am : Option Addr) (zs : List ZM) (cm : Nat) (sa : Int) (ap : Option Addr) (ps : List ZP) (cp : Nat) (ha : Bool) (xa : Option Addr) (za : List Nat) (cxa : Nat) (xb : Option Addr) (zb : List Nat) (cxb : Nat) (grp : ByteArray) (aft : Int) (w : World)
    (hm : MsIn w am zs) (hp : PsIn w ap ps) (hxa : BytesIn w xa za) (hxb : BytesIn w xb zb) (lm : zs.length ≤ 300) (lp : ps.length ≤ 300) (la : za.length ≤ 300) (lb : zb.length ≤ 300) (sa0 : 0 ≤ sa) (sa1 : sa ≤ 255) (d0 : -9223372036854775808 ≤ aft) (d1 : aft ≤ 9223372036854775807) :
    Calls Yba.prog 3 #[.int .u64 view, .slice am zs.length cm, .int .u8 sa, .slice ap ps.length cp, .bool ha, .slice xa za.length cxa, .slice xb zb.length cxb, .string grp, .int .i64 aft] w fun e w' => e = .returned (.bool true) ∧ Below w.heap.size w w' := by
  have HM := Shy.mk (And.intro hm (And.intro hp (And.intro hxa hxb)))
  clear hm hp hxa hxb
  have HD := Shy.mk (And.intro d0 d1)
  clear d0 d1
  have lm' : ¬ (300 : Int) < (zs.length : Int) := by omega
  have lp' : ¬ (300 : Int) < (ps.length : Int) := by omega
  have la' : ¬ (300 : Int) < (za.length : Int) := by omega
  have lb' : ¬ (300 : Int) < (zb.length : Int) := by omega
  go_enter Yba.func3, Yba.ntmps3
  go_upto_block 0 with fail
  go_cut [] from 67 to 88 (fun wx => w = wx ∧ Shy (∀ k, k < ps.length → (ps.getD k zp0).za.length ≤ 300 ∧ (ps.getD k zp0).zb.length ≤ 300))
  case first =>
    as_aux_lemma =>
      go_wp2
      go_loopw [69] (fun i wr => ∃ k : Nat, k ≤ ps.length ∧ i = .int .i64 k ∧ w = wr ∧ Shy (∀ j, j < k → (ps.getD j zp0).za.length ≤ 300 ∧ (ps.getD j zp0).zb.length ≤ 300)) (fun i _ => ps.length - (intOf i).toNat)
      case atStart => exact ⟨0, Nat.zero_le _, rfl, rfl, ⟨fun j hj => absurd hj (Nat.not_lt_zero _)⟩⟩
      case round =>
        as_aux_lemma =>
          obtain ⟨k, hk, rfl, rfl, hinv⟩ := hrel
          by_cases hlt : k < ps.length
          · obtain ⟨⟨b, off, rfl, hb, e0, e1, e2, e3⟩, _, _, l1, l2, _⟩ := HM.out.2.1 k hlt
            obtain ⟨p, hpp⟩ : ∃ p, ps.getD k zp0 = p := ⟨_, rfl⟩
            rw [hpp] at e0 e1 e2 e3 l1 l2
            have HPP := Shy.mk hpp
            clear hpp
            by_cases g1 : (300 : Int) < (p.za.length : Int)
            · go_wp2
              go_ret
              exact ⟨rfl, Below.refl _ _⟩
            · by_cases g2 : (300 : Int) < (p.zb.length : Int)
              · go_wp2
                go_ret
                exact ⟨rfl, Below.refl _ _⟩
              · go_wp2
                go_roundw
                case rel => exact ⟨k + 1, by omega, by go_num, trivial, ⟨fun j hj => by
                  by_cases hjk : j < k
                  · exact hinv.out j hjk
                  · obtain rfl : j = k := by omega
                    rw [HPP.out]; omega⟩⟩
                case measure => simp [intOf]; omega
          · obtain rfl : k = ps.length := by omega
            go_wp2
            go_meet
            exact ⟨rfl, hinv⟩
  case rest =>
  obtain ⟨rfl, HP3⟩ := hcut
  go_upto_if 92 with fail
  go_cut [20] from 89 to 94 (fun v wx => ∃ am' zs' cm', v = .slice am' zs'.length cm' ∧ Shy (MsIn wx am' zs' ∧ 0 < zs'.length ∧ zs'.length ≤ 300 ∧ Below w.heap.size w wx))
  case first =>
    as_aux_lemma =>
      by_cases hz : zs.length = 0
      · have hzb : ((zs.length : Int) == 0) = true := by simp [hz]
        clear hz
        go_wp2
        go_meet
        exact ⟨some ⟨w.heap.size, 0, none⟩, [zm0], 1, rfl, ⟨msin_one w, by decide, by decide, (Below.refl _ _).alloc (Nat.le_refl _) _⟩⟩
      · have hz' : ¬ (zs.length : Int) = 0 := by omega
        go_wp2
        go_meet
        exact ⟨am, zs, cm, rfl, ⟨HM.out.1, by omega, lm, Below.refl _ _⟩⟩
  case rest =>
  obtain ⟨am', zs', cm', rfl, HZ⟩ := hcut
  obtain ⟨W1, hW1⟩ : ∃ W1, W1 = wc := ⟨_, rfl⟩
  subst hW1
  have hmk := run_make35 zs'.length (by have := HZ.out.2.2.1; omega)
  have lz : zs'.length ≤ 300 := HZ.out.2.2.1
  have lz0 : 0 < zs'.length := HZ.out.2.1
  clear lm'
  go_upto_block 2 with fail
  go_cut [] from 98 to 118 (fun wx => Shy (Below W1.heap.size W1 wx ∧ ∃ A, Blk wx W1.heap.size 35 A ∧ A.toList = memCells (mkMs zs')))
  case first =>
    as_aux_lemma =>
      go_wp2
      go_loopw [100] (fun i wr => ∃ k : Nat, k ≤ zs'.length ∧ i = .int .i64 k ∧ Shy (Below W1.heap.size W1 wr ∧ ∃ A, Blk wr W1.heap.size 35 A ∧ A.toList = memCells ((mkMs zs').take k ++ List.replicate ((mkMs zs').length - k) mem0))) (fun i _ => zs'.length - (intOf i).toNat)
      case atStart => exact ⟨0, Nat.zero_le _, rfl, ⟨(Below.refl _ _).alloc (Nat.le_refl _) _, _, Blk.new _ _ _, by rw [mkMs_len]; simpa using made35_toList _⟩⟩
      case round =>
        as_aux_lemma =>
          obtain ⟨k, hk, rfl, hinv⟩ := hrel
          by_cases hlt : k < zs'.length
          · obtain ⟨b, off, rfl, hb, e0', _, _⟩ := HZ.out.1 k hlt
            obtain ⟨m, hm⟩ : ∃ m, m = (mkMs zs').getD k mem0 := ⟨_, rfl⟩
            obtain ⟨z, hz⟩ : ∃ z, zs'.getD k zm0 = z := ⟨_, rfl⟩
            rw [hz] at e0'
            have hmz : m = memOf k z := by rw [hm, mkMs_at zs' hlt, hz]
            have HX := Shy.mk (And.intro hinv.out hm)
            clear hm hinv hz
            subst hmz
            have hn3 : ((nmS k).size : Int) ≤ 8388608 := by have := nmS_size k; omega
            go_upto_region 17 with (go_at_call 6; refine (name_any k (by omega) _).mono ?_; rintro e w1 ⟨rfl, hb1⟩; have H1 := Shy.mk (And.intro (fill_pre HX.out.1 hb1) HX.out.2); clear hb1)
            obtain ⟨hbel, A, hA, hAt⟩ := H1.out.1
            have e0 : w1.cell? ⟨b, off + k * 3, none⟩ = some (.int .u64 z.inc) := (hbel.cell (p := ⟨b, off + k * 3, none⟩) hb).trans e0'
            have hAs : A.size = zs'.length * 4 := by have := congrArg List.length hAt; rw [← mkMs_len zs'] at hk hlt ⊢; simpa [memCells_length, Nat.min_eq_left hk, Nat.add_sub_cancel' hk] using this
            have g0 : w1.cell? ⟨W1.heap.size, k * 4, none⟩ = some (A.getD (k * 4) default) := by rw [hA.cell]; simp [Array.getD, show k * 4 < A.size by omega]
            have g1 : w1.cell? ⟨W1.heap.size, k * 4 + 1, none⟩ = some (A.getD (k * 4 + 1) default) := by rw [hA.cell]; simp [Array.getD, show k * 4 + 1 < A.size by omega]
            have g2 : w1.cell? ⟨W1.heap.size, k * 4 + 1 + 1, none⟩ = some (A.getD (k * 4 + 2) default) := by rw [hA.cell]; simp [Array.getD, show k * 4 + 1 + 1 < A.size by omega]
            have g3 : w1.cell? ⟨W1.heap.size, k * 4 + 1 + 1 + 1, none⟩ = some (A.getD (k * 4 + 3) default) := by rw [hA.cell]; simp [Array.getD, show k * 4 + 1 + 1 + 1 < A.size by omega]
            have gf := hA.frozen
            have H2 := Shy.mk (And.intro hbel (And.intro hA hAt))
            have hkL : (k : Int) < (zs'.length : Int) := by omega
            clear hbel hA hAt hAs HX e0'
            go_wp2
            go_roundw
            case rel =>
              refine ⟨k + 1, by omega, by go_num, ⟨?_⟩⟩
              have hr := fill_round (m := memOf k z) (by rw [mkMs_len]; exact hlt) H2.out.1 H2.out.2.1 H2.out.2.2 H1.out.2
              obtain ⟨r1, A2, r2, r3⟩ := hr
              exact ⟨⟨r1.os, r1.tape, r1.output, r1.size, r1.block⟩, A2, r2, r3⟩
            case measure => simp [intOf]; omega
          · go_wp2
            go_meet
            obtain rfl : k = zs'.length := by omega
            refine ⟨hinv.out.1, ?_⟩
            obtain ⟨A, h1, h2⟩ := hinv.out.2
            exact ⟨A, h1, by rw [h2, mkMs_len, List.take_of_length_le (by rw [mkMs_len]; exact Nat.le_refl _)]; simp⟩
  case rest =>
  obtain ⟨MB, hMB⟩ : ∃ MB, W1.heap.size = MB := ⟨_, rfl⟩
  have HS1 : Shy (S1 w wc MB am' zs') := ⟨s1_of hMB HZ.out hcut.out⟩
  rw [hMB]
  clear hcut hmk HZ hMB
  obtain ⟨W2, hW2⟩ : ∃ W2, W2 = wc := ⟨_, rfl⟩
  subst hW2
  have hnz : ¬ ((zs'.length : Int) + 1 = 0) := by omega
  have hmod0 : 0 ≤ sa % ((zs'.length : Int) + 1) := Int.emod_nonneg _ (by omega)
  have hmod1 : sa % ((zs'.length : Int) + 1) < (zs'.length : Int) + 1 := Int.emod_lt_of_pos _ (by omega)
  go_upto_if 130 with fail
  obtain ⟨SB, hSB⟩ : ∃ SB, W2.heap.size = SB := ⟨_, rfl⟩
  have HS2 : Shy (S2 w (W2.alloc (.cells #[.string ⟨#[115, 101, 108, 102]⟩, .int .u64 0, .string ⟨#[115, 101, 108, 102, 58, 49]⟩, .string ⟨#[]⟩] 35)) MB SB am' zs' ⟨⟨#[115, 101, 108, 102]⟩, 0, ⟨#[115, 101, 108, 102, 58, 49]⟩, ⟨#[]⟩⟩) := ⟨by rw [← hSB]; exact ⟨HS1.out.later ((Below.refl _ _).alloc (Nat.le_refl _) _), Blk.new _ _ _, HS1.out.mbl⟩⟩
  rw [hSB]
  generalize W2.alloc (.cells #[.string ⟨#[115, 101, 108, 102]⟩, .int .u64 0, .string ⟨#[115, 101, 108, 102, 58, 49]⟩, .string ⟨#[]⟩] 35) = W3 at HS2 ⊢
  clear HS1 hSB
  go_cut [25] from 119 to 134 (fun _ wx => ∃ me, Shy (S2 w wx MB SB am' zs' me))
  case first =>
    as_aux_lemma =>
      by_cases hkl : sa % ((zs'.length : Int) + 1) < (zs'.length : Int)
      · obtain ⟨k, hk⟩ : ∃ k : Nat, sa % ((zs'.length : Int) + 1) = (k : Int) := ⟨(sa % ((zs'.length : Int) + 1)).toNat, by omega⟩
        have hkn : k < zs'.length := by omega
        obtain ⟨A, hA, hAt⟩ := HS2.out.s1.mem
        obtain ⟨e0, e1, e2, e3⟩ := OwnM.at (w := W3) (b := MB) (l := mkMs zs') (fun j u hu => by rw [hA.cell, ← Array.getElem?_toList, hAt]; exact hu) (by rw [mkMs_len]; exact hkn)
        obtain ⟨m, hm⟩ : ∃ m, (mkMs zs').getD k mem0 = m := ⟨_, rfl⟩
        rw [hm] at e0 e1 e2 e3
        have y0 : W3.cell? ⟨SB, 0, none⟩ = some (.string ⟨#[115, 101, 108, 102]⟩) := HS2.out.bS.cell 0
        have y1 : W3.cell? ⟨SB, 1, none⟩ = some (.int .u64 0) := HS2.out.bS.cell 1
        have y2 : W3.cell? ⟨SB, 1 + 1, none⟩ = some (.string ⟨#[115, 101, 108, 102, 58, 49]⟩) := HS2.out.bS.cell 2
        have y3 : W3.cell? ⟨SB, 1 + 1 + 1, none⟩ = some (.string ⟨#[]⟩) := HS2.out.bS.cell 3
        have gf := HS2.out.bS.frozen
        clear hA hAt hm
        rw [hk]
        go_wp2
        go_meet
        exact ⟨m, ⟨HS2.out.set m⟩⟩
      · go_wp2
        go_meet
        exact ⟨_, HS2⟩
  case rest =>
  obtain ⟨me, HS2'⟩ := hcut
  clear HS2
  obtain ⟨W4, hW4⟩ : ∃ W4, W4 = wc := ⟨_, rfl⟩
  subst hW4
  have hmk := run_make42 ps.length (by omega)
  clear hmod0 hmod1 hnz sa0 sa1
  go_upto_block 4 with fail
  obtain ⟨PB, hPB⟩ : ∃ PB, W4.heap.size = PB := ⟨_, rfl⟩
  have HS3 : Shy (S3 w (W4.alloc (.cells (made42 ps.length) 42)) MB SB PB am' zs' me [] ps.length) := ⟨by rw [← hPB]; exact s3_start HS2'.out⟩
  rw [hPB]
  generalize W4.alloc (.cells (made42 ps.length) 42) = W5 at HS3 ⊢
  clear HS2' hPB hmk
  go_cut [] from 138 to 172 (fun wx => ∃ P, P.length = ps.length ∧ Shy (S3 w wx MB SB PB am' zs' me P 0))
  case first =>
    as_aux_lemma =>
      go_wp2
      go_loopw [140] (fun i wr => ∃ (k : Nat) (P : List Prp), k ≤ ps.length ∧ i = .int .i64 k ∧ P.length = k ∧ Shy (S3 w wr MB SB PB am' zs' me P (ps.length - k))) (fun i _ => ps.length - (intOf i).toNat)
      case atStart => exact ⟨0, [], Nat.zero_le _, rfl, rfl, HS3⟩
      case round =>
        as_aux_lemma =>
          obtain ⟨k, P, hk, rfl, hPl, hinv⟩ := hrel
          by_cases hlt : k < ps.length
          · obtain ⟨⟨b, off, rfl, hb, e0', e1', e2', e3'⟩, hba, hbb, _, _, of0, of1⟩ := HM.out.2.1 k hlt
            obtain ⟨l1, l2⟩ := HP3.out k hlt
            obtain ⟨p, hpp⟩ : ∃ p, ps.getD k zp0 = p := ⟨_, rfl⟩
            rw [hpp] at e0' e1' e2' e3' hba hbb l1 l2 of0 of1
            have bel := hinv.out.s2.s1.bel
            have e0 : wr.cell? ⟨b, off + k * 4, none⟩ = some (.int .u8 p.off) := (bel.cell (p := ⟨b, off + k * 4, none⟩) hb).trans e0'
            have e1 : wr.cell? ⟨b, off + k * 4 + 1, none⟩ = some (.int .i64 p.rank) := (bel.cell (p := ⟨b, off + k * 4 + 1, none⟩) hb).trans e1'
            have e2 : wr.cell? ⟨b, off + k * 4 + 2, none⟩ = some (.slice p.aa p.za.length p.ca) := (bel.cell (p := ⟨b, off + k * 4 + 2, none⟩) hb).trans e2'
            have e3 : wr.cell? ⟨b, off + k * 4 + 3, none⟩ = some (.slice p.ab p.zb.length p.cb) := (bel.cell (p := ⟨b, off + k * 4 + 3, none⟩) hb).trans e3'
            have hbb' : Shy (BytesIn wr p.aa p.za ∧ BytesIn wr p.ab p.zb) := ⟨hba.later bel, hbb.later bel⟩
            obtain ⟨A, hA, hAt⟩ := hinv.out.bP
            have hAs : A.size = ps.length * 4 := by have := congrArg List.length hAt; rw [prpCells_length] at this; simp at this; omega
            have g0 : wr.cell? ⟨PB, k * 4, none⟩ = some (A.getD (k * 4) default) := by rw [hA.cell]; simp [Array.getD, show k * 4 < A.size by omega]
            have g1 : wr.cell? ⟨PB, k * 4 + 1, none⟩ = some (A.getD (k * 4 + 1) default) := by rw [hA.cell]; simp [Array.getD, show k * 4 + 1 < A.size by omega]
            have g2 : wr.cell? ⟨PB, k * 4 + 1 + 1, none⟩ = some (A.getD (k * 4 + 2) default) := by rw [hA.cell]; simp [Array.getD, show k * 4 + 1 + 1 < A.size by omega]
            have g3 : wr.cell? ⟨PB, k * 4 + 1 + 1 + 1, none⟩ = some (A.getD (k * 4 + 3) default) := by rw [hA.cell]; simp [Array.getD, show k * 4 + 1 + 1 + 1 < A.size by omega]
            have hPBl := hA.lt
            have hbl : b < wr.heap.size := Nat.lt_of_lt_of_le hb bel.size
            have hbP : b ≠ PB := by have h1 := hinv.out.le; have h2 := hinv.out.s2.le; have h3 := hinv.out.s2.s1.le; omega
            have hkL : (k : Int) < (ps.length : Int) := by omega
            clear e0' e1' e2' e3' hba hbb hpp bel hA hAt hAs
            have hsc : ∀ (X : World) (o j : Nat) (v : Value), (X.setCell ⟨PB, o, none⟩ v).cell? ⟨b, j, none⟩ = X.cell? ⟨b, j, none⟩ := fun X o j v => World.cell?_of_block (w := X) (Below.heap_setCell _ _ _ _ hbP)
            go_upto_region 27 with fail
            go_region_held3 (fun w' => w'.cell? ⟨b, off + k * 4, none⟩ = some (.int .u8 p.off) ∧ w'.cell? ⟨b, off + k * 4 + 1, none⟩ = some (.int .i64 p.rank) ∧ w'.cell? ⟨b, off + k * 4 + 2, none⟩ = some (.slice p.aa p.za.length p.ca) ∧ w'.cell? ⟨b, off + k * 4 + 3, none⟩ = some (.slice p.ab p.zb.length p.cb)) (simp [go_sem, *])
              ((go_at_call 7; refine (upd_any p.aa p.ab p.za p.zb p.ca p.cb _ (hbb'.out.1.later ((Below.refl _ wr).drew)) (hbb'.out.2.later ((Below.refl _ wr).drew)) l1 l2).mono ?_; rintro e w1 ⟨va, vr, mems, l, rfl, lm1, lm2, om, oi, hb1⟩; obtain ⟨oa, ca2, rfl, _⟩ := own_shape om; obtain ⟨ob, cb2, rfl, _⟩ := own_shape oi; have H1 := Shy.mk (And.intro (hinv.out.later (w' := w1) ⟨hb1.os, hb1.tape, hb1.output, hb1.size, hb1.block⟩) (show UpdOk w1 _ _ from ⟨mems, l, lm1, lm2, om, oi⟩)); have qe0 : w1.cell? ⟨b, off + k * 4, none⟩ = some (.int .u8 p.off) := (hb1.cell (p := ⟨b, off + k * 4, none⟩) (by show _ < wr.heap.size; omega)).trans e0; have qe1 : w1.cell? ⟨b, off + k * 4 + 1, none⟩ = some (.int .i64 p.rank) := (hb1.cell (p := ⟨b, off + k * 4 + 1, none⟩) (by show _ < wr.heap.size; omega)).trans e1; have qe2 : w1.cell? ⟨b, off + k * 4 + 2, none⟩ = some (.slice p.aa p.za.length p.ca) := (hb1.cell (p := ⟨b, off + k * 4 + 2, none⟩) (by show _ < wr.heap.size; omega)).trans e2; have qe3 : w1.cell? ⟨b, off + k * 4 + 3, none⟩ = some (.slice p.ab p.zb.length p.cb) := (hb1.cell (p := ⟨b, off + k * 4 + 3, none⟩) (by show _ < wr.heap.size; omega)).trans e3; have qg0 : w1.cell? ⟨PB, k * 4, none⟩ = some (A.getD (k * 4) default) := (hb1.cell (p := ⟨PB, k * 4, none⟩) (by show _ < wr.heap.size; omega)).trans g0; have qg1 : w1.cell? ⟨PB, k * 4 + 1, none⟩ = some (A.getD (k * 4 + 1) default) := (hb1.cell (p := ⟨PB, k * 4 + 1, none⟩) (by show _ < wr.heap.size; omega)).trans g1; have qg2 : w1.cell? ⟨PB, k * 4 + 1 + 1, none⟩ = some (A.getD (k * 4 + 2) default) := (hb1.cell (p := ⟨PB, k * 4 + 1 + 1, none⟩) (by show _ < wr.heap.size; omega)).trans g2; have qg3 : w1.cell? ⟨PB, k * 4 + 1 + 1 + 1, none⟩ = some (A.getD (k * 4 + 3) default) := (hb1.cell (p := ⟨PB, k * 4 + 1 + 1 + 1, none⟩) (by show _ < wr.heap.size; omega)).trans g3; have qf := (s3_frozen H1.out.1); clear om oi hb1))
            go_wp2
            go_roundw
            case rel =>
              refine ⟨k + 1, P ++ [⟨IntKind.u64.wrap (view + p.off % 3), oa, mems.length, ca2, ob, l.length, cb2, p.rank⟩], by omega, by go_num, by simp [hPl], ⟨?_⟩⟩
              exact s3_step (p := ⟨IntKind.u64.wrap (view + p.off % 3), oa, mems.length, ca2, ob, l.length, cb2, p.rank⟩) hPl hlt H1.out.1 H1.out.2
            case measure => simp [intOf]; omega
          · go_wp2
            go_meet
            obtain rfl : k = ps.length := by omega
            exact ⟨P, hPl, by rw [Nat.sub_self] at hinv; exact hinv⟩
  case rest =>
  obtain ⟨P, hPl, HS3'⟩ := hcut
  clear HS3
  rw [← hPl]
  have lP : P.length ≤ 300 := by omega
  have HPL := Shy.mk hPl
  clear hPl lp'
  obtain ⟨W6, hW6⟩ : ∃ W6, W6 = wc := ⟨_, rfl⟩
  subst hW6
  go_upto_if 173 with fail
  go_cut [28, 29] from 173 to 176 (fun v _ wx => ∃ apx, v = .pointer apx ∧ (apx = none ↔ ha = false) ∧ Shy (S3 w wx MB SB PB am' zs' me P 0 ∧ AH wx PB apx))
  case first =>
    as_aux_lemma =>
      cases ha with
      | false =>
        go_wp2
        go_meet
        exact ⟨none, rfl, by simp, ⟨HS3'.out, fun a h => by cases h⟩⟩
      | true =>
        have bel := HS3'.out.s2.s1.bel
        have HC := Shy.mk (upd_any xa xb za zb cxa cxb W6 (HM.out.2.2.1.later bel) (HM.out.2.2.2.later bel) la lb)
        clear bel
        go_wp2_with (go_at_call 7; refine HC.out.mono ?_; rintro e w1 ⟨va, vr, mems, l, rfl, lm1, lm2, om, oi, hb1⟩; obtain ⟨oa, ca2, rfl, _⟩ := own_shape om; obtain ⟨ob, cb2, rfl, _⟩ := own_shape oi; have H1 := Shy.mk (And.intro (HS3'.out.later hb1) (show UpdOk w1 _ _ from ⟨mems, l, lm1, lm2, om, oi⟩)); clear om oi hb1)
        go_meet
        exact ⟨_, rfl, by simp, ⟨ah_new H1.out.1 H1.out.2⟩⟩
  case rest =>
  obtain ⟨apx, rfl, hapx, HS4⟩ := hcut
  have HAP := Shy.mk hapx
  clear HS3' hapx
  obtain ⟨W7, hW7⟩ : ∃ W7, W7 = wc := ⟨_, rfl⟩
  subst hW7
  go_upto_region 36 with fail
  obtain ⟨nx, hnx⟩ : ∃ nx, IntKind.u64.wrap (view + 1) = nx := ⟨_, rfl⟩
  rw [hnx]
  have HNX := Shy.mk hnx
  clear hnx
  obtain ⟨WB, hWB⟩ : ∃ WB, W7.heap.size = WB := ⟨_, rfl⟩
  have HS5 : Shy (S4 w (W7.alloc (.cells #[.slice none 0 0, .slice none 0 0] 39)) MB SB PB WB am' zs' me P apx none 0 0 none 0 0) := ⟨by rw [← hWB]; exact s4_start HS4.out.1 HS4.out.2⟩
  rw [hWB]
  generalize W7.alloc (.cells #[.slice none 0 0, .slice none 0 0] 39) = W8 at HS5 ⊢
  clear HS4 hWB
  go_cut [180] from 177 to 179 (fun c wx => c = .bool apx.isSome ∧ W8 = wx)
  case first =>
    as_aux_lemma =>
      cases apx with
      | none => go_wp2; go_meet; exact ⟨rfl, rfl⟩
      | some a => go_wp2; go_meet; exact ⟨rfl, rfl⟩
  case rest =>
  obtain ⟨rfl, rfl⟩ := hcut
  go_upto_if 180 with fail
  go_cut [32, 33, 34] from 181 to 219 (fun v _ _ wx => ∃ oa na ca ob nr cr, v = .bool (!(apx.isNone && (bst P nx P.length).isNone)) ∧ Shy (S4 w wx MB SB PB WB am' zs' me P apx oa na ca ob nr cr ∧ FW wx apx P nx oa na ca ob nr cr))
  case first =>
    as_aux_lemma =>
      have y0 : W8.cell? ⟨WB, 0, none⟩ = some (.slice none 0 0) := HS5.out.bW.cell 0
      have y1 : W8.cell? ⟨WB, 1, none⟩ = some (.slice none 0 0) := HS5.out.bW.cell 1
      have gf := HS5.out.bW.frozen
      cases apx with
      | some a =>
        obtain ⟨ab, oa, na, ca, ob, nr, cr, rfl, h2, h3, h4⟩ := HS5.out.ah a rfl
        have a0 : W8.cell? ⟨ab, 0, none⟩ = some (.slice oa na ca) := h2.cell 0
        have a1 : W8.cell? ⟨ab, 1, none⟩ = some (.slice ob nr cr) := h2.cell 1
        have HA := Shy.mk h2
        clear h2 h3 h4
        go_wp2
        go_meet
        exact ⟨oa, na, ca, ob, nr, cr, rfl, ⟨HS5.out.set _ _ _ _ _ _, .inl ⟨ab, rfl, (s4_other HS5.out HA.out)⟩⟩⟩
      | none =>
        clear y0 y1 gf
        go_upto_block 6 with fail
        go_wp2
        go_loopw [33, 186] (fun b i wr => ∃ (k : Nat), k ≤ P.length ∧ i = .int .i64 k ∧ b = .int .i64 (bI (bst P nx k)) ∧ Shy (S4 w wr MB SB PB WB am' zs' me P none none 0 0 none 0 0)) (fun _ i _ => P.length - (intOf i).toNat)
        case atStart => exact ⟨0, Nat.zero_le _, rfl, rfl, HS5⟩
        case round =>
          as_aux_lemma =>
            obtain ⟨k, hk, rfl, rfl, hinv⟩ := hrel
            obtain ⟨A, hA, hAt⟩ := hinv.out.s3.bP
            have hAt' : A.toList = prpCells P := by simpa using hAt
            have HA := Shy.mk (And.intro hA hAt')
            clear hA hAt hAt'
            by_cases hlt : k < P.length
            · obtain ⟨e0, e1, e2, e3⟩ := prp_at HA.out.1 HA.out.2 hlt
              obtain ⟨p, hp⟩ : ∃ p, P.getD k prp0 = p := ⟨_, rfl⟩
              rw [hp] at e0 e1 e2 e3
              have HP := Shy.mk hp
              obtain ⟨b, hb⟩ : ∃ b, bst P nx k = b := ⟨_, rfl⟩
              rw [hb]
              clear hp
              cases hn : (p.num != nx) with
              | true =>
                have hs : Shy (bst P nx (k + 1) = b) := ⟨by show bstep P nx (bst P nx k) k = b; unfold bstep; rw [HP.out, if_neg (by simpa using hn), hb]⟩
                clear hb
                go_wp2
                go_roundw
                case rel => exact ⟨k + 1, by omega, by go_num, by rw [hs.out], hinv⟩
                case measure => simp [intOf]; omega
              | false =>
                have hn' : p.num = nx := by simpa using hn
                cases b with
                | none =>
                  have hs : Shy (bst P nx (k + 1) = some k) := ⟨by show bstep P nx (bst P nx k) k = some k; unfold bstep; rw [HP.out, if_pos hn', hb]⟩
                  clear hb hn'
                  simp only [bI]
                  go_wp2
                  go_quiet (fail)
                  go_wp2
                  go_roundw
                  case rel => exact ⟨k + 1, by omega, by go_num, by rw [hs.out], ⟨hinv.out.later (Below.drewN (Below.refl _ _) _)⟩⟩
                  case measure => simp [intOf]; omega
                | some j =>
                  have hj := bst_lt P nx k j hb
                  have hjP : j < P.length := by omega
                  obtain ⟨_, _, _, y3⟩ := prp_at HA.out.1 HA.out.2 hjP
                  obtain ⟨p2, hp2⟩ : ∃ p2, P.getD j prp0 = p2 := ⟨_, rfl⟩
                  rw [hp2] at y3
                  have y3' : wr.cell? ⟨PB, j * 4 + 3, none⟩ = some (.int .i64 p2.rank) := y3
                  clear y3
                  cases hr : decide (p2.rank < p.rank) with
                  | true =>
                    have hs : Shy (bst P nx (k + 1) = some k) := ⟨by show bstep P nx (bst P nx k) k = some k; unfold bstep; rw [HP.out, if_pos hn', hb]; simp only [hp2]; rw [if_pos (by simpa using hr)]⟩
                    clear hb hn' hp2
                    simp only [bI]
                    go_wp2
                    go_quiet (fail)
                    go_wp2
                    go_roundw
                    case rel => exact ⟨k + 1, by omega, by go_num, by rw [hs.out], ⟨hinv.out.later (Below.drewN (Below.refl _ _) _)⟩⟩
                    case measure => simp [intOf]; omega
                  | false =>
                    have hs : Shy (bst P nx (k + 1) = some j) := ⟨by show bstep P nx (bst P nx k) k = some j; unfold bstep; rw [HP.out, if_pos hn', hb]; simp only [hp2]; rw [if_neg (by simpa using hr)]⟩
                    clear hb hn' hp2
                    simp only [bI]
                    go_wp2
                    go_quiet (fail)
                    go_wp2
                    go_roundw
                    case rel => exact ⟨k + 1, by omega, by go_num, by rw [hs.out], ⟨hinv.out.later (Below.drewN (Below.refl _ _) _)⟩⟩
                    case measure => simp [intOf]; omega
            · obtain rfl : k = P.length := by omega
              cases hb : bst P nx P.length with
              | none =>
                simp only [bI]
                go_wp2
                go_meet
                exact ⟨none, 0, 0, none, 0, 0, by rw [hb]; rfl, ⟨hinv.out, .inr (.inr ⟨rfl, hb, rfl, rfl, rfl, rfl, rfl, rfl⟩)⟩⟩
              | some j =>
                have hj := bst_lt P nx P.length j hb
                obtain ⟨_, y1, y2, _⟩ := prp_at HA.out.1 HA.out.2 hj
                obtain ⟨p2, hp2⟩ : ∃ p2, P.getD j prp0 = p2 := ⟨_, rfl⟩
                rw [hp2] at y1 y2
                have HP2 := Shy.mk (And.intro hp2 hb)
                have z0 : wr.cell? ⟨WB, 0, none⟩ = some (.slice none 0 0) := hinv.out.bW.cell 0
                have z1 : wr.cell? ⟨WB, 1, none⟩ = some (.slice none 0 0) := hinv.out.bW.cell 1
                have gf := hinv.out.bW.frozen
                clear hp2 hb
                simp only [bI]
                go_wp2
                go_meet
                exact ⟨p2.oa, p2.na, p2.ca, p2.ob, p2.nr, p2.cr, by rw [HP2.out.2]; rfl, ⟨hinv.out.set _ _ _ _ _ _, .inr (.inl ⟨rfl, j, HP2.out.2, by rw [HP2.out.1], by rw [HP2.out.1], by rw [HP2.out.1], by rw [HP2.out.1], by rw [HP2.out.1], by rw [HP2.out.1]⟩)⟩⟩
  case rest =>
  obtain ⟨oa, na, ca, ob, nr, cr, rfl, HS6⟩ := hcut
  clear HS5
  obtain ⟨W9, hW9⟩ : ∃ W9, W9 = wc := ⟨_, rfl⟩
  subst hW9
  obtain ⟨fb, hfb⟩ : ∃ fb, (!(apx.isNone && (bst P nx P.length).isNone)) = fb := ⟨_, rfl⟩
  rw [hfb]
  have HFB := Shy.mk hfb
  clear hfb
  have hmk := mk44 W9
  go_upto_block 8 with fail
  obtain ⟨XB, hXB⟩ : ∃ XB, W9.heap.size = XB := ⟨_, rfl⟩
  have HS7 : Shy (S4 w (W9.alloc (.map #[] 0)) MB SB PB WB am' zs' me P apx oa na ca ob nr cr ∧ FW (W9.alloc (.map #[] 0)) apx P nx oa na ca ob nr cr ∧ Mp (W9.alloc (.map #[] 0)) XB [] ∧ WB < XB ∧ XB < (W9.alloc (.map #[] 0)).heap.size) := ⟨by
    have hb : Kept (fun _ => True) W9 (W9.alloc (.map #[] 0)) := (Kept.refl _ _).alloc _
    rw [← hXB]
    exact ⟨HS6.out.1.kept hb (fun _ _ => trivial) (fun _ _ _ _ _ => trivial), HS6.out.2.kept hb (fun _ _ _ _ _ => trivial), Mp.new _, HS6.out.1.bW.lt, (Mp.new _).lt⟩⟩
  rw [hXB]
  generalize W9.alloc (.map #[] 0) = W10 at HS7 ⊢
  clear HS6 hXB hmk
  go_cut [36, 37] from 221 to 250 (fun lv sf wx => sf = .bool (flg zs' zs'.length) ∧ Shy (LI W10 wx XB lv (pickL zsus zs' zs'.length) (pickL zlea zs' zs'.length)))
  case first =>
    as_aux_lemma =>
      obtain ⟨i1, hji, hy0, hy1, hy2⟩ := info_parts info33
      go_wp2
      go_loopw [36, 37, 223] (fun lv sf i wr => ∃ k : Nat, k ≤ zs'.length ∧ i = .int .i64 k ∧ sf = .bool (flg zs' k) ∧ Shy (LI W10 wr XB lv (pickL zsus zs' k) (pickL zlea zs' k))) (fun _ _ i _ => zs'.length - (intOf i).toNat)
      case atStart => exact ⟨0, Nat.zero_le _, rfl, rfl, ⟨⟨Kept.refl _ _, HS7.out.2.2.1, ⟨rfl, .inl ⟨rfl, rfl⟩⟩⟩⟩⟩
      case round =>
        as_aux_lemma =>
          obtain ⟨k, hk, rfl, rfl, hinv⟩ := hrel
          by_cases hlt : k < zs'.length
          · obtain ⟨z, hz⟩ : ∃ z, zs'.getD k zm0 = z := ⟨_, rfl⟩
            have hkL : (k : Int) < (zs'.length : Int) := by omega
            have cellsOf : ∀ wy v ks ls, LI W10 wy XB v ks ls → (∃ b off, am' = some ⟨b, off, none⟩ ∧ wy.cell? ⟨b, off + k * 3 + 1, none⟩ = some (.bool z.sus) ∧ wy.cell? ⟨b, off + k * 3 + 2, none⟩ = some (.bool z.lea)) ∧ wy.cell? ⟨MB, k * 4, none⟩ = some (.string (nmS k)) ∧ wy.cell? ⟨MB, k * 4 + 1, none⟩ = some (.int .u64 z.inc) := by
              intro wy v ks ls hi
              have hS := HS7.out.1.kept hi.kept (fun b hb => by have := HS7.out.2.2.2.1; omega) (fun b t c hb _ => (HS7.out.2.2.1.ne hb).symm)
              obtain ⟨b, off, h1, _, _, h2, h3⟩ := hS.s3.s2.s1.ms k hlt
              obtain ⟨A, hA, hAt⟩ := hS.s3.s2.s1.mem
              obtain ⟨e0, e1, _, _⟩ := OwnM.at (w := wy) (b := MB) (l := mkMs zs') (fun j u hu => by rw [hA.cell, ← Array.getElem?_toList, hAt]; exact hu) (by rw [mkMs_len]; exact hlt)
              rw [mkMs_at zs' hlt, hz] at e0 e1
              rw [hz] at h2 h3
              exact ⟨⟨b, off, h1, h2, h3⟩, e0, e1⟩
            have hup : z.sus = true → (Instr.mapUpdate 44 (.map (some XB)) (.agg #[.string (nmS k), .int .u64 z.inc]) (.bool true)).run Yba.prog wr = .ok () (World.mapSet wr XB (pickL zsus zs' k ++ [(nmS k, z.inc)])) := fun _ => up44 hinv.out.mp _ _ (by rw [← hz, pickL_has _ _ _ _ (by omega) (by omega)]; simp)
            have hf : flg zs' (k + 1) = (flg zs' k || (z.sus || z.lea)) := by rw [flg_succ, hz]
            have hps : pickL zsus zs' (k + 1) = pickL zsus zs' k ++ (if z.sus = true then [(nmS k, z.inc)] else []) := by rw [pickL_succ, hz]; rfl
            have hpl : pickL zlea zs' (k + 1) = pickL zlea zs' k ++ (if z.lea = true then [(nmS k, z.inc)] else []) := by rw [pickL_succ, hz]; rfl
            obtain ⟨⟨b, off, rfl, e1, e2⟩, e3, e4⟩ := cellsOf _ _ _ _ hinv.out
            obtain ⟨lvs, hlvs⟩ : ∃ lvs, pickL zlea zs' k = lvs := ⟨_, rfl⟩
            have hlen : lvs.length ≤ 300 := by rw [← hlvs]; have := pickL_len zlea zs' k; omega
            rw [hlvs] at hinv
            have HF := Shy.mk (And.intro hf (And.intro hps (And.intro hpl hlvs)))
            have HC := Shy.mk cellsOf
            have HXW : XB < W10.heap.size := HS7.out.2.2.2.2
            clear hf hps hpl cellsOf hlvs hz
            obtain ⟨zi, zsu, zle⟩ := z
            simp only at hup e1 e2 e4 HF HC
            go_upto_if 230 with fail
            go_cut [37] from 230 to 236 (fun sf wx => sf = .bool (flg zs' k || zsu) ∧ Shy (LI W10 wx XB u36 (pickL zsus zs' (k + 1)) lvs))
            case first =>
              as_aux_lemma =>
                cases zsu with
                | false =>
                  go_wp2
                  go_meet
                  exact ⟨by simp, ⟨by rw [HF.out.2.1]; simpa using hinv.out⟩⟩
                | true =>
                  have hup' := hup rfl
                  clear hup
                  go_wp2
                  go_meet
                  exact ⟨by simp, ⟨by rw [HF.out.2.1]; exact hinv.out.map _⟩⟩
            case rest =>
            obtain ⟨rfl, HI⟩ := hcut
            obtain ⟨wy, hwy⟩ : ∃ wy, wy = wc := ⟨_, rfl⟩
            subst hwy
            obtain ⟨⟨b', off', hbb, g1, g2⟩, g3, g4⟩ := HC.out _ _ _ _ HI.out
            cases hbb
            clear e1 e2 e3 e4 hup hinv
            cases zle with
            | false =>
              go_wp2
              go_roundw
              case rel => exact ⟨k + 1, by omega, by go_num, by rw [HF.out.1]; simp, ⟨by rw [HF.out.2.2.1, HF.out.2.2.2]; simpa using HI.out⟩⟩
              case measure => simp [intOf]; omega
            | true =>
              have ho := HI.out.own
              go_wp2_with (at_builtin; refine wpList_append_own _ rfl (.tmp 242) (.tmp 248) 37 rfl W10.heap.size 33 i1 zero33 2 24 Yba.underlying37 hji hy0 hy1 hy2 rfl (by decide) _ _ _ rfl (ho.alloc _) ⟨wy.heap.size, 0, none⟩ 1 1 [.string (nmS k), .int .u64 zi] rfl rfl ?c1 ?c2 ?c3 ?c4 ?c5 ?_)
              case c2 => exact ⟨rfl, rfl⟩
              case c3 => unfold maxLen; omega
              case c4 => omega
              case c5 => have := HI.out.kept.size; simp; omega
              intro v2 w2 hown2 hgrow2 _
              have HR := Shy.mk (LI.app (m := (nmS k, zi)) HI.out HXW hown2 hgrow2)
              clear hown2 hgrow2 ho
              go_wp2
              go_roundw
              case rel => exact ⟨k + 1, by omega, by go_num, by rw [HF.out.1]; simp, ⟨by rw [HF.out.2.2.1, HF.out.2.2.2]; exact HR.out⟩⟩
              case measure => simp [intOf]; omega
          · obtain rfl : k = zs'.length := by omega
            go_wp2
            go_meet
            exact ⟨rfl, hinv⟩
  case rest =>
  obtain ⟨rfl, HL⟩ := hcut
  obtain ⟨W11, hW11⟩ : ∃ W11, W11 = wc := ⟨_, rfl⟩
  subst hW11
  obtain ⟨fl, hfl⟩ : ∃ fl, flg zs' zs'.length = fl := ⟨_, rfl⟩
  rw [hfl]
  have HFL := Shy.mk hfl
  clear hfl
  go_upto_region 63 with fail
  go_cut [256] from 251 to 255 (fun c wx => c = .bool (!fb && !fl) ∧ W11 = wx)
  case first =>
    as_aux_lemma =>
      cases fb with
      | true => go_wp2; go_meet; exact ⟨rfl, rfl⟩
      | false => go_wp2; go_meet; exact ⟨by simp, rfl⟩
  case rest =>
  obtain ⟨rfl, rfl⟩ := hcut
  go_upto_if 256 with fail
  go_cut [] from 257 to 261 (fun wx => Shy (LI W10 wx XB u36 (ksF fb zs') (pickL zlea zs' zs'.length)))
  case first =>
    as_aux_lemma =>
      have hS := HS7.out.1.kept HL.out.kept (fun b hb => by have := HS7.out.2.2.2.1; omega) (fun b t c hb _ => (HS7.out.2.2.1.ne hb).symm)
      obtain ⟨A, hA, hAt⟩ := hS.s3.s2.s1.mem
      obtain ⟨e0, e1, _, _⟩ := OwnM.at (w := W11) (b := MB) (l := mkMs zs') (fun j u hu => by rw [hA.cell, ← Array.getElem?_toList, hAt]; exact hu) (by rw [mkMs_len]; exact lz0)
      rw [mkMs_at zs' lz0] at e0 e1
      obtain ⟨z, hz⟩ : ∃ z, zs'.getD 0 zm0 = z := ⟨_, rfl⟩
      rw [hz] at e0 e1
      have e0' : W11.cell? ⟨MB, 0, none⟩ = some (.string (nmS 0)) := by simpa [memOf] using e0
      have e1' : W11.cell? ⟨MB, 1, none⟩ = some (.int .u64 z.inc) := by simpa [memOf] using e1
      have lz1 : (0 : Int) < (zs'.length : Int) := by omega
      have HZ := Shy.mk hz
      clear e0 e1 hA hAt hS hz
      cases fb with
      | true =>
        simp only [Bool.not_true, Bool.false_and]
        go_wp2
        go_meet
        exact ⟨by simpa [ksF] using HL.out⟩
      | false =>
        cases fl with
        | true =>
          go_wp2
          go_meet
          exact ⟨by simpa [ksF, HFL.out] using HL.out⟩
        | false =>
          have hup : (Instr.mapUpdate 44 (.map (some XB)) (.agg #[.string (nmS 0), .int .u64 z.inc]) (.bool true)).run Yba.prog W11 = .ok () (World.mapSet W11 XB ([] ++ [(nmS 0, z.inc)])) := up44 (by have := HL.out.mp; rwa [flg_none HFL.out] at this) _ _ rfl
          go_wp2
          go_meet
          refine ⟨?_⟩
          unfold ksF
          rw [HFL.out, HZ.out]
          exact HL.out.map _
  case rest =>
  obtain ⟨W12, hW12⟩ : ∃ W12, W12 = wc := ⟨_, rfl⟩
  subst hW12
  obtain ⟨ks, hks⟩ : ∃ ks, ksF fb zs' = ks := ⟨_, rfl⟩
  obtain ⟨lvs, hlvs⟩ : ∃ lvs, pickL zlea zs' zs'.length = lvs := ⟨_, rfl⟩
  rw [hks, hlvs] at hcut
  have hvl : lvs.length ≤ 300 := by rw [← hlvs]; have := pickL_len zlea zs' zs'.length; omega
  have HKS := Shy.mk (And.intro hks hlvs)
  have HS8 : Shy (S5 w W12 MB SB PB WB XB am' zs' me P apx nx oa na ca ob nr cr ks lvs u36) := ⟨s5_of HS7.out hcut.out⟩
  clear hks hlvs hcut HL HS7 HFL
  go_upto_if 263 with fail
  go_cut [] from 264 to 293 (fun wx => ∃ oa na ca ob nr cr, Shy (S6 w wx MB SB PB WB XB am' zs' me P apx nx oa na ca ob nr cr ks lvs u36))
  case first =>
    cases fb with
    | true =>
      go_wp2
      go_meet
      exact ⟨oa, na, ca, ob, nr, cr, ⟨s6_found HS8.out HFB.out⟩⟩
    | false =>
      obtain ⟨rfl, hbn, rfl, rfl, rfl, rfl, rfl, rfl⟩ := s5_not HS8.out HFB.out
      have HBN := Shy.mk hbn
      clear hbn
      obtain ⟨i1, hji, hy0, hy1, hy2⟩ := info_parts info33
      go_upto_block 10 with fail
      go_wp2
      go_loopw [266] (fun i wr => ∃ (k : Nat) (v : Value), k ≤ zs'.length ∧ i = .int .i64 k ∧ Shy (LR W12 wr WB v (remL ks lvs ((mkMs zs').take k)))) (fun i _ => zs'.length - (intOf i).toNat)
      case atStart => exact ⟨0, .slice none 0 0, Nat.zero_le _, rfl, ⟨⟨Kept.refl _ _, HS8.out.s4.bW, ⟨rfl, .inl ⟨rfl, rfl⟩⟩⟩⟩⟩
      case round =>
        obtain ⟨k, v, hk, rfl, hinv⟩ := hrel
        by_cases hlt : k < zs'.length
        · obtain ⟨z, hz⟩ : ∃ z, zs'.getD k zm0 = z := ⟨_, rfl⟩
          have hkL : (k : Int) < (zs'.length : Int) := by omega
          have l1 := HS8.out.s4.le
          have l2 := HS8.out.s4.s3.le
          have l3 := HS8.out.s4.s3.s2.le
          have hS := HS8.out.s4.s3.s2.s1.kept hinv.out.kept (fun b hb => by show b ≠ WB; omega)
          obtain ⟨b, off, rfl, _, _, _, e2⟩ := hS.ms k hlt
          obtain ⟨A, hA, hAt⟩ := hS.mem
          obtain ⟨e3, e4, _, _⟩ := OwnM.at (w := wr) (b := MB) (l := mkMs zs') (fun j u hu => by rw [hA.cell, ← Array.getElem?_toList, hAt]; exact hu) (by rw [mkMs_len]; exact hlt)
          rw [mkMs_at zs' hlt, hz] at e3 e4
          rw [hz] at e2
          have hlv : hasK lvs (nmS k, z.inc) = z.lea := by rw [← HKS.out.2, ← hz, pickL_has _ _ _ _ (by omega) (by omega)]; simp [hlt, zlea]
          have hrm : remL ks lvs ((mkMs zs').take (k + 1)) = remL ks lvs ((mkMs zs').take k) ++ (if (hasK ks (nmS k, z.inc) || z.lea) = true then [(nmS k, z.inc)] else []) := by
            rw [take_snoc_mem _ _ (by rw [mkMs_len]; exact hlt), remL_snoc, mkMs_at zs' hlt, hz]
            show _ ++ (if (hasK ks (nmS k, z.inc) || hasK lvs (nmS k, z.inc)) = true then [(nmS k, z.inc)] else []) = _
            rw [hlv]
          obtain ⟨zi, zsu, zle⟩ := z
          have e3' : wr.cell? ⟨MB, k * 4, none⟩ = some (.string (nmS k)) := e3
          have e4' : wr.cell? ⟨MB, k * 4 + 1, none⟩ = some (.int .u64 zi) := e4
          simp only at e2 hrm
          obtain ⟨l, hl⟩ : ∃ l, remL ks lvs ((mkMs zs').take k) = l := ⟨_, rfl⟩
          have hlen : l.length ≤ 300 := by rw [← hl]; have h1 := remL_len ks lvs ((mkMs zs').take k); have h2 : ((mkMs zs').take k).length ≤ k := List.length_take_le _ _; omega
          rw [hl] at hinv hrm
          have HR := Shy.mk hrm
          have hlk : (Instr.lookup 44 (.map (some XB)) (.agg #[.string (nmS k), .int .u64 zi]) false).run Yba.prog wr = .ok (.bool (hasK ks (nmS k, zi))) wr := lk44 (HS8.out.mp.kept hinv.out.kept (by have := HS8.out.le; show XB ≠ WB; omega)) _ _
          have c1 : wr.cell? ⟨WB, 1, none⟩ = some v := hinv.out.bW.cell 1
          have f1 := hinv.out.bW.frozen 1
          have qa : ∀ o : Obj, (wr.alloc o).cell? ⟨WB, 1, none⟩ = some v := fun o => (hinv.out.bW.alloc o).cell 1
          have ltM := hA.lt
          have ltW : WB < W12.heap.size := HS8.out.s4.bW.lt
          have HK := Shy.mk (And.intro l1 (And.intro l2 l3))
          clear e3 e4 hA hAt hS hz hlv hrm hl l1 l2 l3
          go_upto_region 69 with fail
          go_cut [282] from 269 to 281 (fun c wx => c = .bool (hasK ks (nmS k, zi) || zle) ∧ wr = wx)
          case first =>
            cases hb1 : hasK ks (nmS k, zi) with
            | true => rw [hb1] at hlk; go_wp2; go_meet; exact ⟨by simp [hb1], rfl⟩
            | false => rw [hb1] at hlk; go_wp2; go_meet; exact ⟨by simp [hb1], rfl⟩
          case rest =>
          obtain ⟨rfl, rfl⟩ := hcut
          clear hlk e2
          cases hb1 : (hasK ks (nmS k, zi) || zle) with
          | true =>
            rw [hb1] at HR
            go_upto_region 70 with fail
            go_region_law (refine step_append_lies _ (by rfl) (.tmp 284) (.tmp 290) 37 (by rfl) W12.heap.size 33 i1 zero33 2 24 Yba.underlying37 hji hy0 hy1 hy2 rfl (by decide) v l.length (idCells l) (by simp [Act.eval, Act.put]) (by exact hinv.out.own.alloc _) ⟨wr.heap.size, 0, none⟩ 1 1 [.string (nmS k), .int .u64 zi] (by simp [Act.eval, Act.put]) rfl (by exact cells_new _ [.string (nmS k), .int .u64 zi] _) (by intro u hu; simp at hu; rcases hu with rfl | rfl <;> rfl) (by decide) (by unfold maxLen; omega) (by omega) (by have := hinv.out.kept.size; simp; omega) (wr.heap.size + 1) (by simp) ?_; intro g cp w2 hown2 hgrow2 hat hlt2; obtain ⟨k1, HR2⟩ := LR.app (m := (nmS k, zi)) (LR.mk hinv.out.kept.drew hinv.out.bW.drew hinv.out.own) ltW hown2 hgrow2; have g1 : w2.cell? ⟨WB, 1, none⟩ = some v := k1.cell 1; have g2 := k1.frozen 1; have HRR := Shy.mk HR2; clear k1 HR2 hown2 hgrow2)
            all_goals
              go_wp2
              go_roundw
              case rel => exact ⟨k + 1, _, by omega, by go_num, ⟨by rw [HR.out]; exact HRR.out⟩⟩
              case measure => simp [intOf]; omega
          | false =>
            rw [hb1] at HR
            go_wp2
            go_roundw
            case rel => exact ⟨k + 1, v, by omega, by go_num, ⟨by rw [HR.out]; simpa using hinv.out⟩⟩
            case measure => simp [intOf]; omega
        · obtain rfl : k = zs'.length := by omega
          rw [List.take_of_length_le (by rw [mkMs_len]; exact Nat.le_refl _)] at hinv
          obtain ⟨ob', cb', rfl, _⟩ := own_shape (own_base hinv.out.own (Nat.zero_le _))
          go_wp2
          go_meet
          exact ⟨none, 0, 0, ob', _, cb', ⟨s6_rem HS8.out HBN.out hinv.out⟩⟩
  case rest =>
  clear HS8
  obtain ⟨oa, na, ca, ob, nr, cr, HS8⟩ := hcut
  obtain ⟨W13, hW13⟩ : ∃ W13, W13 = wc := ⟨_, rfl⟩
  subst hW13
  go_upto_block 12 with fail
  go_cut [40] from 294 to 314 (fun sl wx => Shy (S6 w wx MB SB PB WB XB am' zs' me P apx nx oa na ca ob nr cr ks lvs u36 ∧ OwnI wx sl (susL ks (mkMs zs'))))
  case first =>
    as_aux_lemma =>
      obtain ⟨i1, hji, hy0, hy1, hy2⟩ := info_parts info33
      go_wp2
      go_loopw [40, 296] (fun v i wr => ∃ k : Nat, k ≤ zs'.length ∧ i = .int .i64 k ∧ Shy (SI W13 wr v (susL ks ((mkMs zs').take k)))) (fun _ i _ => zs'.length - (intOf i).toNat)
      case atStart => exact ⟨0, Nat.zero_le _, rfl, ⟨⟨⟨rfl, .inl ⟨rfl, rfl⟩⟩, Kept.refl _ _⟩⟩⟩
      case round =>
        as_aux_lemma =>
          obtain ⟨k, hk, rfl, hinv⟩ := hrel
          by_cases hlt : k < zs'.length
          · obtain ⟨z, hz⟩ : ∃ z, zs'.getD k zm0 = z := ⟨_, rfl⟩
            have hkL : (k : Int) < (zs'.length : Int) := by omega
            have hS := HS8.out.s4.s3.s2.s1.kept hinv.out.kept (fun b hb => trivial)
            obtain ⟨A, hA, hAt⟩ := hS.mem
            obtain ⟨e3, e4, _, _⟩ := OwnM.at (w := wr) (b := MB) (l := mkMs zs') (fun j u hu => by rw [hA.cell, ← Array.getElem?_toList, hAt]; exact hu) (by rw [mkMs_len]; exact hlt)
            rw [mkMs_at zs' hlt, hz] at e3 e4
            have hrm : susL ks ((mkMs zs').take (k + 1)) = susL ks ((mkMs zs').take k) ++ (if hasK ks (nmS k, z.inc) = true then [(nmS k, z.inc)] else []) := by
              rw [take_snoc_mem _ _ (by rw [mkMs_len]; exact hlt), susL_snoc, mkMs_at zs' hlt, hz]
              rfl
            obtain ⟨zi, zsu, zle⟩ := z
            have e3' : wr.cell? ⟨MB, k * 4, none⟩ = some (.string (nmS k)) := e3
            have e4' : wr.cell? ⟨MB, k * 4 + 1, none⟩ = some (.int .u64 zi) := e4
            simp only at hrm
            obtain ⟨l, hl⟩ : ∃ l, susL ks ((mkMs zs').take k) = l := ⟨_, rfl⟩
            have hlen : l.length ≤ 300 := by rw [← hl]; have h1 := susL_len ks ((mkMs zs').take k); have h2 : ((mkMs zs').take k).length ≤ k := List.length_take_le _ _; omega
            rw [hl] at hinv hrm
            have HR := Shy.mk hrm
            have hlk : (Instr.lookup 44 (.map (some XB)) (.agg #[.string (nmS k), .int .u64 zi]) false).run Yba.prog wr = .ok (.bool (hasK ks (nmS k, zi))) wr := lk44 (HS8.out.mp.kept hinv.out.kept trivial) _ _
            have ltM := hA.lt
            clear e3 e4 hA hAt hS hz hrm hl
            cases hb1 : hasK ks (nmS k, zi) with
            | true =>
              rw [hb1] at hlk HR
              have ho := hinv.out.own
              go_wp2_with (at_builtin; refine wpList_append_own _ rfl (.tmp 306) (.tmp 312) 37 rfl W13.heap.size 33 i1 zero33 2 24 Yba.underlying37 hji hy0 hy1 hy2 rfl (by decide) _ _ _ rfl (ho.alloc _) ⟨wr.heap.size, 0, none⟩ 1 1 [.string (nmS k), .int .u64 zi] rfl rfl ?d1 ?d2 ?d3 ?d4 ?d5 ?_)
              case d2 => exact ⟨rfl, rfl⟩
              case d3 => unfold maxLen; omega
              case d4 => omega
              case d5 => have := hinv.out.kept.size; simp; omega
              intro v2 w2 hown2 hgrow2 _
              have HRR := Shy.mk (SI.app (m := (nmS k, zi)) hinv.out hown2 hgrow2)
              clear hown2 hgrow2 ho
              go_wp2
              go_roundw
              case rel => exact ⟨k + 1, by omega, by go_num, ⟨by rw [HR.out]; exact HRR.out⟩⟩
              case measure => simp [intOf]; omega
            | false =>
              rw [hb1] at hlk HR
              go_wp2
              go_roundw
              case rel => exact ⟨k + 1, by omega, by go_num, ⟨by rw [HR.out]; simpa using hinv.out⟩⟩
              case measure => simp [intOf]; omega
          · obtain rfl : k = zs'.length := by omega
            rw [List.take_of_length_le (by rw [mkMs_len]; exact Nat.le_refl _)] at hinv
            go_wp2
            go_meet
            exact ⟨HS8.out.later hinv.out.kept, own_base hinv.out.own (Nat.zero_le _)⟩
  case rest =>
  clear HS8
  have HS8 := hcut
  clear hcut
  obtain ⟨lo, lc, rfl, -⟩ := own_shape HS8.out.1.ol
  obtain ⟨so, sc, rfl, -⟩ := own_shape HS8.out.2
  obtain ⟨W14, hW14⟩ : ∃ W14, W14 = wc := ⟨_, rfl⟩
  subst hW14
  go_upto_region 79 with fail
  go_cut [42] from 315 to 319 (fun o wx => ∃ OB, o = .pointer (some ⟨OB, 0, none⟩) ∧ Shy (Kept (fun _ => True) W14 wx ∧ Blk wx OB 51 (oldA view apx PB P.length)))
  case first =>
    as_aux_lemma =>
      go_wp2
      go_meet
      exact ⟨_, rfl, ⟨(Kept.refl _ _).alloc _, Blk.new _ _ _⟩⟩
  case rest =>
  obtain ⟨OB, rfl, HO⟩ := hcut
  obtain ⟨W15, hW15⟩ : ∃ W15, W15 = wc := ⟨_, rfl⟩
  subst hW15
  go_upto_region 80 with fail
  go_cut [43] from 320 to 334 (fun o wx => ∃ NB M1 M2, o = .pointer (some ⟨NB, 0, none⟩) ∧ Shy (Kept (fun _ => True) W15 wx ∧ Blk wx NB 72 (nodeA me aft view MB zs'.length grp M1 M2 XB (.slice lo lvs.length lc) OB) ∧ W15.heap.size ≤ NB))
  case first =>
    as_aux_lemma =>
      have bS := HS8.out.1.s4.s3.s2.bS.kept HO.out.1 trivial
      have x0 : W15.cell? ⟨SB, 0, none⟩ = some (.string me.nm) := bS.cell 0
      have x1 : W15.cell? ⟨SB, 1, none⟩ = some (.int .u64 me.inc) := bS.cell 1
      have x2 : W15.cell? ⟨SB, 1 + 1, none⟩ = some (.string me.ad) := bS.cell 2
      have x3 : W15.cell? ⟨SB, 1 + 1 + 1, none⟩ = some (.string me.tk) := bS.cell 3
      have hm1 := mk44
      clear bS
      go_wp2_with (first | (refine wpList_build72 rfl rfl me aft view MB zs'.length grp W15.heap.size (W15.heap.size + 1) XB lo lvs.length lc OB rfl rfl rfl rfl rfl rfl (by simp [Act.eval]) rfl ?_) | (refine wpList_box72 rfl rfl me aft view MB zs'.length grp W15.heap.size (W15.heap.size + 1) XB (.slice lo lvs.length lc) OB rfl ?_))
      go_meet
      refine ⟨_, W15.heap.size, W15.heap.size + 1, rfl, ⟨(((Kept.refl _ W15).alloc _).alloc _).alloc _, ?_, by omega⟩⟩
      have hb := Blk.new ((W15.alloc (.map #[] 0)).alloc (.map #[] 0)) 72 (nodeA me aft view MB zs'.length grp W15.heap.size (W15.heap.size + 1) XB (.slice lo lvs.length lc) OB)
      rw [show ((W15.alloc (.map #[] 0)).alloc (.map #[] 0)).heap.size = W15.heap.size + 1 + 1 from by simp] at hb
      exact hb
  case rest =>
  obtain ⟨NB, M1, M2, rfl, HN⟩ := hcut
  obtain ⟨W16, hW16⟩ : ∃ W16, W16 = wc := ⟨_, rfl⟩
  subst hW16
  have HFP : Shy (FP w W16 MB SB PB WB XB NB OB M1 M2 am' zs' me P apx nx view aft grp oa na ca ob nr cr ks lvs (.slice lo lvs.length lc) (.slice so (susL ks (mkMs zs')).length sc)) := ⟨⟨(HS8.out.1.later HO.out.1).later HN.out.1, (HS8.out.2.kept HO.out.1).kept HN.out.1, HO.out.2.kept HN.out.1 trivial, HN.out.2.1, by have h1 := HS8.out.1.mp.lt; have h2 := HO.out.1.size; have h3 := HN.out.2.2; omega⟩⟩
  clear HS8 HO HN
  have HC := Shy.mk (fin_propose (fb := fb) lz lz0 lP hvl HNX.out HFB.out HKS.out HD.out HFP.out)
  clear HFP
  go_upto_region 82 with (go_at_call 8; refine HC.out.mono ?_; rintro e V ⟨rfl, oa', na', ca', ob', nr', cr', AB, RB, UB, sv, N, E, hf⟩; have HF := Shy.mk hf; clear hf)
  clear HC
  have n35 : V.cell? ⟨NB, 35, none⟩ = some (.pointer (some ⟨RB, 0, none⟩)) := (HF.out.bN.cell 35).trans HF.out.n35
  have hRO : (binOp .eql 45 (.pointer (some ⟨RB, 0, none⟩)) (.pointer (some ⟨OB, 0, none⟩))).run Yba.prog V = .ok (.bool false) V := HF.out.bO.elim fun O hO => eql45_other HF.out.hne HF.out.bR hO
  go_upto_region 85 with fail
  clear n35 hRO
  go_cut [377] from 349 to 376 (fun c wx => c = .bool false ∧ Shy (FS w wx fb MB SB PB WB XB NB AB RB UB OB am' zs' me P apx nx aft grp oa na ca ob nr cr ks lvs (.slice lo lvs.length lc) (.slice so (susL ks (mkMs zs')).length sc) (.slice oa' na' ca') (.slice ob' nr' cr') sv N E))
  case first =>
    as_aux_lemma =>
      have hR := HF.out.bR
      have hW := HF.out.s6.s4.bW
      have r0 : V.cell? ⟨RB, 0, none⟩ = some (.int .u64 nx) := hR.cell 0
      have r1 : V.cell? ⟨RB, 1, none⟩ = some (.slice oa' na' ca') := hR.cell 1
      have r2 : V.cell? ⟨RB, 1 + 1, none⟩ = some (.slice ob' nr' cr') := hR.cell 2
      have r3 : V.cell? ⟨RB, 3, none⟩ = some (.string ⟨#[115, 117, 98, 109, 105, 116, 116, 101, 100]⟩) := hR.cell 3
      have r5 : V.cell? ⟨RB, 5, none⟩ = some (.int .i64 0) := hR.cell 5
      have y0 : V.cell? ⟨WB, 0, none⟩ = some (.slice oa na ca) := hW.cell 0
      have y1 : V.cell? ⟨WB, 1, none⟩ = some (.slice ob nr cr) := hW.cell 1
      have ltR := hR.lt
      have ltW := hW.lt
      clear hR hW
      have hx := fun x b o h => kw_cell V x b o h
      have hne := KW.some V
      refine wp_region_kw (by kernel_rfl) (by kernel_rfl) ?_
      repeat (go_big_quiet_step ((go_at_call 9; refine (Same.call (HF.out.same.later (kw_kept V _))).mono ?_; rintro e w1 ⟨rfl, hk1⟩; exact ⟨rfl, kw_in ((kw_kept V _).trans hk1)⟩)))
      refine wpQuiet_nil ?_
      rintro _ ⟨x, rfl⟩
      clear hx hne
      go_wp2
      go_meet
      exact ⟨rfl, ⟨HF.out.later (kw_kept V x)⟩⟩
  case rest =>
  clear HF
  obtain ⟨rfl, HF⟩ := hcut
  obtain ⟨V1, hV1⟩ : ∃ V1, V1 = wc := ⟨_, rfl⟩
  subst hV1
  go_upto_region 87 with fail
  go_cut [393] from 378 to 392 (fun c wx => c = .bool false ∧ V1 = wx)
  case first =>
    as_aux_lemma =>
      have r12 : V1.cell? ⟨RB, 12, none⟩ = some (.pointer apx) := HF.out.bR.cell 12
      have r13 : V1.cell? ⟨RB, 13, none⟩ = some (.slice (some ⟨PB, 0, none⟩) P.length P.length) := HF.out.bR.cell 13
      have hq := neq43
      go_wp2
      go_meet
      exact ⟨rfl, rfl⟩
  case rest =>
  obtain ⟨rfl, rfl⟩ := hcut
  go_upto_region 89 with fail
  go_cut [406] from 394 to 405 (fun c wx => c = .bool false ∧ Shy (FS w wx fb MB SB PB WB XB NB AB RB UB OB am' zs' me P apx nx aft grp oa na ca ob nr cr ks lvs (.slice lo lvs.length lc) (.slice so (susL ks (mkMs zs')).length sc) (.slice oa' na' ca') (.slice ob' nr' cr') sv N E))
  case first =>
    as_aux_lemma =>
      have r13 : V1.cell? ⟨RB, 13, none⟩ = some (.slice (some ⟨PB, 0, none⟩) P.length P.length) := HF.out.bR.cell 13
      have ltR := HF.out.bR.lt
      have hq := neq64
      cases P with
      | nil =>
        simp only [List.length_nil] at r13 ⊢
        go_quiet (fail)
        go_wp2
        go_meet
        exact ⟨rfl, ⟨HF.out.later ((Kept.refl _ V1).drewN _)⟩⟩
      | cons p0 P =>
        simp only [List.length_cons] at r13 ⊢
        go_quiet (fail)
        go_wp2
        go_meet
        exact ⟨rfl, ⟨HF.out.later ((Kept.refl _ V1).drewN _)⟩⟩
  case rest =>
  clear HF
  obtain ⟨rfl, HF⟩ := hcut
  obtain ⟨V2, hV2⟩ : ∃ V2, V2 = wc := ⟨_, rfl⟩
  subst hV2
  go_upto_region 91 with fail
  go_cut [415] from 407 to 414 (fun c wx => c = .bool false ∧ Shy (FS w wx fb MB SB PB WB XB NB AB RB UB OB am' zs' me P apx nx aft grp oa na ca ob nr cr ks lvs (.slice lo lvs.length lc) (.slice so (susL ks (mkMs zs')).length sc) (.slice oa' na' ca') (.slice ob' nr' cr') sv N E))
  case first =>
    as_aux_lemma =>
      have r6 : V2.cell? ⟨RB, 6, none⟩ = some (.int .u64 (aft % 1000000000)) := HF.out.bR.cell 6
      have r7 : V2.cell? ⟨RB, 6 + 1, none⟩ = some (.int .i64 (aft / 1000000000)) := HF.out.bR.cell 7
      have r8 : V2.cell? ⟨RB, 6 + 1 + 1, none⟩ = some (.pointer none) := HF.out.bR.cell 8
      have ltR := HF.out.bR.lt
      have hx := fun x b o h => kw_cell V2 x b o h
      have hne := KW.some V2
      refine wp_region_kw (by kernel_rfl) (by kernel_rfl) ?_
      repeat (go_big_quiet_step ((first | (go_at_call 11; refine (add_exp aft _ HD.out.1 HD.out.2).mono ?_; rintro e w1 ⟨rfl, hk1⟩; exact ⟨rfl, kw_in ((kw_kept V2 _).trans hk1)⟩) | (go_at_call 10; refine (equal_any aft _).mono ?_; rintro e w1 ⟨rfl, hk1⟩; exact ⟨rfl, kw_in ((kw_kept V2 _).trans hk1)⟩))))
      refine wpQuiet_nil ?_
      rintro _ ⟨x, rfl⟩
      clear hx hne
      go_wp2
      go_meet
      exact ⟨rfl, ⟨HF.out.later (kw_kept V2 x)⟩⟩
  case rest =>
  clear HF
  obtain ⟨rfl, HF⟩ := hcut
  obtain ⟨V3, hV3⟩ : ∃ V3, V3 = wc := ⟨_, rfl⟩
  subst hV3
  go_upto_if 416 with fail
  go_cut [] from 417 to 431 (fun wx => V3 = wx)
  case first =>
    as_aux_lemma =>
      have n34 : V3.cell? ⟨NB, 34, none⟩ = some (if fb = true then .slice lo lvs.length lc else .slice none 0 0) := (HF.out.bN.cell 34).trans HF.out.n34
      cases fb with
      | true =>
        simp only [if_true] at n34
        go_wp2
        go_meet
        exact rfl
      | false =>
        simp only [Bool.false_eq_true, if_false] at n34
        go_wp2
        go_meet
        exact rfl
  case rest =>
  obtain rfl := hcut
  go_upto_block 14 with fail
  go_cut [45] from 435 to 540 (fun c wx => c = .int .i64 (E.length : Nat) ∧ Shy (FS w wx fb MB SB PB WB XB NB AB RB UB OB am' zs' me P apx nx aft grp oa na ca ob nr cr ks lvs (.slice lo lvs.length lc) (.slice so (susL ks (mkMs zs')).length sc) (.slice oa' na' ca') (.slice ob' nr' cr') sv N E))
  case first =>
    as_aux_lemma =>
      clear HM HP3 HKS HPL HAP HNX HFB HD la' lb' hvl lm lp la lb lP
      have hq := run_eql33
      have hEl : E.length = (tgts me.nm me.inc ks (mkMs zs')).length := by rw [← HF.out.e1, List.length_map]
      go_wp2
      go_loopw [45, 434] (fun c i wr => ∃ k : Nat, k ≤ zs'.length ∧ i = .int .i64 k ∧ c = .int .i64 ((tgts me.nm me.inc ks ((mkMs zs').take k)).length : Nat) ∧ Shy (FS w wr fb MB SB PB WB XB NB AB RB UB OB am' zs' me P apx nx aft grp oa na ca ob nr cr ks lvs (.slice lo lvs.length lc) (.slice so (susL ks (mkMs zs')).length sc) (.slice oa' na' ca') (.slice ob' nr' cr') sv N E)) (fun _ i _ => zs'.length - (intOf i).toNat)
      case atStart => exact ⟨0, Nat.zero_le _, rfl, rfl, HF⟩
      case round =>
        as_aux_lemma =>
          clear HF
          obtain ⟨k, hk, rfl, rfl, hinv⟩ := hrel
          by_cases hlt : k < zs'.length
          · have hkL : (k : Int) < (zs'.length : Int) := by omega
            obtain ⟨m, hm⟩ : ∃ m, (mkMs zs').getD k mem0 = m := ⟨_, rfl⟩
            obtain ⟨A, hA, hAt⟩ := hinv.out.s6.s4.s3.s2.s1.mem
            obtain ⟨e0, e1, e2, e3⟩ := OwnM.at (w := wr) (b := MB) (l := mkMs zs') (fun j u hu => by rw [hA.cell, ← Array.getElem?_toList, hAt]; exact hu) (by rw [mkMs_len]; exact hlt)
            rw [hm] at e0 e1 e2 e3
            obtain ⟨c, hc⟩ : ∃ c, (tgts me.nm me.inc ks ((mkMs zs').take k)).length = c := ⟨_, rfl⟩
            have hcl : c ≤ 300 := by
              have a1 : (tgts me.nm me.inc ks ((mkMs zs').take k)).length ≤ ((mkMs zs').take k).length := List.length_filter_le _ _
              have a2 : ((mkMs zs').take k).length ≤ k := List.length_take_le _ _
              omega
            rw [hc]
            have HM := Shy.mk (And.intro hm hc)
            clear hA hAt hm hc
            go_upto_region 103 with fail
            have H5 : Shy (FS w (wr.alloc (.cells #[.string m.nm, .int .u64 m.inc, .string m.ad, .string m.tk] 35)) fb MB SB PB WB XB NB AB RB UB OB am' zs' me P apx nx aft grp oa na ca ob nr cr ks lvs (.slice lo lvs.length lc) (.slice so (susL ks (mkMs zs')).length sc) (.slice oa' na' ca') (.slice ob' nr' cr') sv N E ∧ Blk (wr.alloc (.cells #[.string m.nm, .int .u64 m.inc, .string m.ad, .string m.tk] 35)) wr.heap.size 35 #[.string m.nm, .int .u64 m.inc, .string m.ad, .string m.tk]) := ⟨hinv.out.later ((Kept.refl _ wr).alloc _), Blk.new _ _ _⟩
            clear hinv e0 e1 e2 e3
            generalize wr.alloc (.cells #[.string m.nm, .int .u64 m.inc, .string m.ad, .string m.tk] 35) = W5 at H5 ⊢
            generalize wr.heap.size = VB at H5 ⊢
            go_cut [451] from 441 to 450 (fun b wx => b = .bool ((m.nm.toList == me.nm.toList && m.inc == me.inc) || hasK ks (m.nm, m.inc)) ∧ W5 = wx)
            case first =>
              as_aux_lemma =>
                have v0 : W5.cell? ⟨VB, 0, none⟩ = some (.string m.nm) := H5.out.2.cell 0
                have v1 : W5.cell? ⟨VB, 1, none⟩ = some (.int .u64 m.inc) := H5.out.2.cell 1
                have s0 : W5.cell? ⟨SB, 0, none⟩ = some (.string me.nm) := H5.out.1.s6.s4.s3.s2.bS.cell 0
                have s1 : W5.cell? ⟨SB, 1, none⟩ = some (.int .u64 me.inc) := H5.out.1.s6.s4.s3.s2.bS.cell 1
                have hlk : (Instr.lookup 44 (.map (some XB)) (.agg #[.string m.nm, .int .u64 m.inc]) false).run Yba.prog W5 = .ok (.bool (hasK ks (m.nm, m.inc))) W5 := lk44 H5.out.1.s6.mp _ _
                rcases b1 : (m.nm.toList == me.nm.toList && m.inc == me.inc) with _ | _
                · go_wp2
                  go_meet
                  exact ⟨by rw [b1]; simp, rfl⟩
                · go_wp2
                  go_meet
                  exact ⟨by rw [b1]; simp, rfl⟩
            case rest =>
            obtain ⟨rfl, rfl⟩ := hcut
            cases hb : ((m.nm.toList == me.nm.toList && m.inc == me.inc) || hasK ks (m.nm, m.inc)) with
            | true =>
              have hs : sel me.nm me.inc ks m = false := by
                unfold sel
                revert hb
                cases (m.nm.toList == me.nm.toList && m.inc == me.inc) <;> cases hasK ks (m.nm, m.inc) <;> simp
              have HS := Shy.mk hs
              clear hs
              go_wp2
              go_roundw
              case rel => exact ⟨k + 1, by omega, by go_num, by rw [take_snoc_mem _ _ (by rw [mkMs_len]; exact hlt), HM.out.1, tgts_snoc, if_neg (by rw [HS.out]; decide), List.append_nil, HM.out.2], ⟨H5.out.1⟩⟩
              case measure => simp [intOf]; omega
            | false =>
              have hs : sel me.nm me.inc ks m = true := by
                unfold sel
                revert hb
                cases (m.nm.toList == me.nm.toList && m.inc == me.inc) <;> cases hasK ks (m.nm, m.inc) <;> simp
              obtain ⟨g, cap, eo, ec, told, hsv, hcE, ht, hos, hgl, hrg, hhk⟩ := H5.out.1.env (k := k) (by rw [mkMs_len]; exact hlt) (by rw [HM.out.1]; exact hs)
              rw [HM.out.2] at hcE hrg
              rw [HM.out.1] at hrg hhk
              subst hsv
              have hnext : (tgts me.nm me.inc ks ((mkMs zs').take (k + 1))).length = c + 1 := by rw [take_snoc_mem _ _ (by rw [mkMs_len]; exact hlt), HM.out.1, tgts_snoc, if_pos hs, List.length_append, HM.out.2]; rfl
              have HS := Shy.mk (And.intro hnext (And.intro ht (And.intro hos hgl)))
              have HG := Shy.mk hrg
              have z4 : W5.cell? ⟨RB, 4, none⟩ = some (.map (some AB)) := H5.out.1.bR.cell 4
              have v0 : W5.cell? ⟨VB, 0, none⟩ = some (.string m.nm) := H5.out.2.cell 0
              have v1 : W5.cell? ⟨VB, 1, none⟩ = some (.int .u64 m.inc) := H5.out.2.cell 1
              have hlk2 : ∀ n, (Instr.lookup 44 (.map (some AB)) (.agg #[.string m.nm, .int .u64 m.inc]) false).run Yba.prog (W5.drewN n) = .ok (.bool true) (W5.drewN n) := fun n => by rw [← hhk]; exact lk44 (H5.out.1.mp.kept ((Kept.refl (fun _ => True) W5).drewN n) trivial) _ _
              clear hs hnext ht hos hgl hrg hhk hb
              go_upto_region 104 with fail
              go_cut [459] from 452 to 458 (fun b wx => b = .bool false ∧ Shy (Kept (fun _ => True) W5 wx))
              case first =>
                as_aux_lemma =>
                  go_quiet (fail)
                  go_wp2
                  go_meet
                  exact ⟨rfl, ⟨(Kept.refl _ _).drewN _⟩⟩
              case rest =>
              obtain ⟨rfl, HK⟩ := hcut
              obtain ⟨W6, hW6⟩ : ∃ W6, W6 = wc := ⟨_, rfl⟩
              subst hW6
              have H6 : Shy (FS w W6 fb MB SB PB WB XB NB AB RB UB OB am' zs' me P apx nx aft grp oa na ca ob nr cr ks lvs (.slice lo lvs.length lc) (.slice so (susL ks (mkMs zs')).length sc) (.slice oa' na' ca') (.slice ob' nr' cr') (.slice (some ⟨g, 0, none⟩) E.length cap) N E ∧ Blk W6 VB 35 #[.string m.nm, .int .u64 m.inc, .string m.ad, .string m.tk]) := ⟨H5.out.1.later HK.out, H5.out.2.kept HK.out trivial⟩
              have HR : Shy (W6.rangeAt g (c * 19) (env3 me.nm me.inc me.ad grp nx UB (m, .slice eo (susL ks (mkMs zs')).length ec, told))) := ⟨range_kept HS.out.2.2.2 HG.out HK.out⟩
              have HO : Shy (OwnI W6 (.slice eo (susL ks (mkMs zs')).length ec) (susL ks (mkMs zs')) ∧ told.oneCell' = true ∧ (tgts me.nm me.inc ks ((mkMs zs').take (k + 1))).length = c + 1) := ⟨HS.out.2.2.1.kept HK.out, HS.out.2.1, HS.out.1⟩
              have n61 : W6.cell? ⟨NB, 61, none⟩ = some (.slice (some ⟨g, 0, none⟩) E.length cap) := (H6.out.1.bN.cell 61).trans H6.out.1.n61
              have hcI : (c : Int) < (E.length : Int) := by omega
              have hcI1 : ¬ (E.length : Int) < (c : Int) + 1 := by omega
              clear HS HG z4 v0 v1 hlk2 HK H5
              go_upto_region 109 with fail
              go_upto_region 110 with (first | (refine wpList_load_mid ?_ 83 (.tmp 477) ?_ g (c * 19) ?_ (env3 me.nm me.inc me.ad grp nx UB (m, .slice eo (susL ks (mkMs zs')).length ec, told)) _ ?_ Yba.underlying83 ?_ ?_ ?_; (· rfl); (· rfl); (· rfl); (· exact HR.out); (· rfl); (· kernel_rfl)) | (refine wpList_store_mid ?_ 83 (.tmp 48) (.tmp 478) ?_ W6.heap.size 0 (env3 me.nm me.inc me.ad grp nx UB (m, .slice eo (susL ks (mkMs zs')).length ec, told)).toArray ?_ ?_ ?_ ?_ ?_ ?_; (· rfl); (· rfl); (· rfl); (· rfl); (· exact cop_there _); (· kernel_rfl); (· exact env3_one _ _ _ _ _ _ _ _ _ _ _ HO.out.2.1)))
              obtain ⟨W7, hW7⟩ : ∃ W7, World.setCells (W6.alloc (.cells #[.string ⟨#[]⟩, .string ⟨#[]⟩, .string ⟨#[]⟩, .int .u64 0, .string ⟨#[]⟩, .slice none 0 0, .pointer none, .int .u64 0, .pointer none, .pointer none, .pointer none, .pointer none, .pointer none, .pointer none, .pointer none, .slice none 0 0, .map none, .string ⟨#[]⟩, .pointer none] 83)) W6.heap.size 0 (env3 me.nm me.inc me.ad grp nx UB (m, .slice eo (susL ks (mkMs zs')).length ec, told)) = W7 := ⟨_, rfl⟩
              rw [hW7]
              obtain ⟨hK7, hE7⟩ : Kept (fun _ => True) W6 W7 ∧ Blk W7 W6.heap.size 83 (env3 me.nm me.inc me.ad grp nx UB (m, .slice eo (susL ks (mkMs zs')).length ec, told)).toArray := by rw [← hW7]; exact cop_stored W6 (env3 me.nm me.inc me.ad grp nx UB (m, .slice eo (susL ks (mkMs zs')).length ec, told)) rfl
              clear hW7
              obtain ⟨EB, hEB⟩ : ∃ EB, W6.heap.size = EB := ⟨_, rfl⟩
              rw [hEB] at hE7
              rw [hEB]
              have H7 : Shy (FS w W7 fb MB SB PB WB XB NB AB RB UB OB am' zs' me P apx nx aft grp oa na ca ob nr cr ks lvs (.slice lo lvs.length lc) (.slice so (susL ks (mkMs zs')).length sc) (.slice oa' na' ca') (.slice ob' nr' cr') (.slice (some ⟨g, 0, none⟩) E.length cap) N E ∧ Blk W7 VB 35 #[.string m.nm, .int .u64 m.inc, .string m.ad, .string m.tk] ∧ Blk W7 EB 83 (env3 me.nm me.inc me.ad grp nx UB (m, .slice eo (susL ks (mkMs zs')).length ec, told)).toArray ∧ OwnI W7 (.slice eo (susL ks (mkMs zs')).length ec) (susL ks (mkMs zs'))) := ⟨H6.out.1.later hK7, H6.out.2.kept hK7 trivial, hE7, HO.out.1.kept hK7⟩
              have HO2 := Shy.mk HO.out.2.2
              clear HO H6 HR n61 hcI hcI1 hK7 hE7 hEB
              simp only [Act.put, List.setIfInBounds_toArray, List.set_cons_succ, List.set_cons_zero]
              go_cut [502] from 479 to 501 (fun b wx => b = .bool false ∧ W7 = wx)
              case first =>
                as_aux_lemma =>
                  have x0 : W7.cell? ⟨EB, 0, none⟩ = some (.string m.ad) := H7.out.2.2.1.cell 0
                  have x1 : W7.cell? ⟨EB, 1, none⟩ = some (.string ⟨#[115, 117, 98, 109, 105, 116]⟩) := H7.out.2.2.1.cell 1
                  have x7 : W7.cell? ⟨EB, 7, none⟩ = some (.int .u64 nx) := H7.out.2.2.1.cell 7
                  have x8 : W7.cell? ⟨EB, 8, none⟩ = some (.pointer (some ⟨UB, 0, none⟩)) := H7.out.2.2.1.cell 8
                  have v2 : W7.cell? ⟨VB, 2, none⟩ = some (.string m.ad) := H7.out.2.1.cell 2
                  go_wp2
                  go_meet
                  exact ⟨rfl, rfl⟩
              case rest =>
              obtain ⟨rfl, rfl⟩ := hcut
              go_upto_region 112 with fail
              go_cut [533] from 503 to 532 (fun b wx => b = .bool false ∧ Shy (Kept (fun _ => True) W7 wx))
              case first =>
                as_aux_lemma =>
                  have x2 : W7.cell? ⟨EB, 2, none⟩ = some (.string me.nm) := H7.out.2.2.1.cell 2
                  have x3 : W7.cell? ⟨EB, 2 + 1, none⟩ = some (.int .u64 me.inc) := H7.out.2.2.1.cell 3
                  have x4 : W7.cell? ⟨EB, 4, none⟩ = some (.string me.ad) := H7.out.2.2.1.cell 4
                  have x8 : W7.cell? ⟨EB, 8, none⟩ = some (.pointer (some ⟨UB, 0, none⟩)) := H7.out.2.2.1.cell 8
                  have x17 : W7.cell? ⟨EB, 17, none⟩ = some (.string grp) := H7.out.2.2.1.cell 17
                  have u0 : W7.cell? ⟨UB, 0, none⟩ = some (.slice oa' na' ca') := H7.out.1.bU.cell 0
                  have u1 : W7.cell? ⟨UB, 1, none⟩ = some (.slice ob' nr' cr') := H7.out.1.bU.cell 1
                  have y0 : W7.cell? ⟨WB, 0, none⟩ = some (.slice oa na ca) := H7.out.1.s6.s4.bW.cell 0
                  have y1 : W7.cell? ⟨WB, 1, none⟩ = some (.slice ob nr cr) := H7.out.1.s6.s4.bW.cell 1
                  have s0 : W7.cell? ⟨SB, 0, none⟩ = some (.string me.nm) := H7.out.1.s6.s4.s3.s2.bS.cell 0
                  have s1 : W7.cell? ⟨SB, 1, none⟩ = some (.int .u64 me.inc) := H7.out.1.s6.s4.s3.s2.bS.cell 1
                  have s2 : W7.cell? ⟨SB, 2, none⟩ = some (.string me.ad) := H7.out.1.s6.s4.s3.s2.bS.cell 2
                  have ltE := H7.out.2.2.1.lt
                  have ltU := H7.out.1.bU.lt
                  have ltW := H7.out.1.s6.s4.bW.lt
                  have ltS := H7.out.1.s6.s4.s3.s2.bS.lt
                  have hq2 := run_neq33
                  have hx := fun x b o h => kw_cell W7 x b o h
                  have hne := KW.some W7
                  refine wp_region_kw (by kernel_rfl) (by kernel_rfl) ?_
                  repeat (go_big_quiet_step ((go_at_call 9; refine (Same.call (H7.out.1.same.later (kw_kept W7 _))).mono ?_; rintro e w1 ⟨rfl, hk1⟩; exact ⟨rfl, kw_in ((kw_kept W7 _).trans hk1)⟩)))
                  refine wpQuiet_nil ?_
                  rintro _ ⟨x, rfl⟩
                  clear hx hne
                  go_wp2
                  go_meet
                  exact ⟨rfl, ⟨kw_kept W7 x⟩⟩
              case rest =>
              obtain ⟨rfl, HK8⟩ := hcut
              obtain ⟨W8, hW8⟩ : ∃ W8, W8 = wc := ⟨_, rfl⟩
              subst hW8
              have H8 := Shy.mk (And.intro (H7.out.1.later HK8.out) (And.intro (H7.out.2.2.1.kept HK8.out trivial) (H7.out.2.2.2.kept HK8.out)))
              have x5 : W8.cell? ⟨EB, 5, none⟩ = some (.slice eo (susL ks (mkMs zs')).length ec) := H8.out.2.1.cell 5
              have HC := Shy.mk (ids_any (susL ks (mkMs zs')) _ _ W8 H8.out.2.2 H8.out.1.os (by have h := susL_len ks (mkMs zs'); rw [mkMs_len] at h; omega))
              clear H7 HK8
              go_wp2_with (go_at_call 12; refine HC.out.mono ?_; rintro e w9 ⟨rfl, hk9⟩; have H9 := Shy.mk (H8.out.1.later hk9); clear hk9)
              go_roundw
              case rel => exact ⟨k + 1, by omega, by go_num, by rw [HO2.out]; go_num, H9⟩
              case measure => simp [intOf]; omega
          · obtain rfl : k = zs'.length := by omega
            rw [List.take_of_length_le (by rw [mkMs_len]; exact Nat.le_refl _), ← hEl]
            go_wp2
            go_meet
            exact ⟨rfl, hinv⟩
  case rest =>
  clear HF
  obtain ⟨rfl, HF⟩ := hcut
  obtain ⟨V4, hV4⟩ : ∃ V4, V4 = wc := ⟨_, rfl⟩
  subst hV4
  have hEl : (tgts me.nm me.inc ks (mkMs zs')).length = E.length := by rw [← HF.out.e1, List.length_map]
  have r4 : V4.cell? ⟨RB, 4, none⟩ = some (.map (some AB)) := HF.out.bR.cell 4
  have n61 : V4.cell? ⟨NB, 61, none⟩ = some sv := (HF.out.bN.cell 61).trans HF.out.n61
  have n63 : V4.cell? ⟨NB, 63, none⟩ = some (.slice none 0 0) := (HF.out.bN.cell 63).trans HF.out.n63
  have hlen := fun ty => len44 HF.out.mp ty
  rw [List.length_map, hEl] at hlen
  obtain ⟨eo, ec, hsv, _⟩ := own_shape HF.out.oE
  have HH := Shy.mk (And.intro HF.out.s6.s4.s3.s2.s1.bel hEl)
  clear HF hEl
  subst hsv
  go_wp2
  go_ret
  exact ⟨rfl, HH.out.1⟩
end Go.Proofs.Ybulkcdnw
