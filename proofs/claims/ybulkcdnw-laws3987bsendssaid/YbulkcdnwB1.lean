/-
  The walk of the law B.
-/
import Derived.Test.YbulkcdnwBSmall
import Derived.Test.YbulkcdnwProbe
import Derived.Test.YbulkcdnwPre
import Derived.Test.YbulkcdnwExt
import Derived.Deep.RegionHeld3
import Derived.Deep.DrawnRows
import Derived.Deep.Cut
import Derived.Deep.CutRange
import Derived.Deep.CutBlock
import Derived.BigQuiet
import Derived.Deep.QuietTactic
namespace Go.Proofs.Ybulkcdnw
open Go.RowKit
set_option maxRecDepth 100000
set_option linter.unusedSimpArgs false
set_option linter.unusedVariables false
attribute [local go_sem ↓] Go.wp_at_zero Go.wp_at_succ

theorem status_same (k : Int) (h0 : 0 ≤ k) (h1 : k ≤ 255) (w : World) : Calls Yba.prog 13 #[.int .u8 k] w fun e w' => e = .returned (.string (stOf k)) ∧ w = w' :=
  (status_any k h0 h1 w).mono fun _ _ h => ⟨h.1, h.2.symm⟩

set_option maxHeartbeats 40000000 in
theorem walkB (sn : ByteArray) (si : Int) (sa : ByteArray) (sp : Int) (gr : ByteArray) (st num : Int) (ao : Option Addr) (ms : List Mem) (cap : Nat) (pr : Int) (w : World) (hL : ms.length ≤ 1024)
    (hsp : 0 ≤ sp ∧ sp ≤ 255) (hst : 0 ≤ st ∧ st ≤ 255) (hpr : 0 ≤ pr ∧ pr ≤ 255)
    (hz : 0 < ms.length → ∃ b off, ao = some ⟨b, off, none⟩ ∧ b < w.heap.size ∧ ∀ k j, k < ms.length → j < 4 → w.cell? ⟨b, off + k * 4 + j, none⟩ = (ms.getD k mem0).cells[j]?) :
    Calls Yba.prog 4 #[.string sn, .int .u64 si, .string sa, .int .u8 sp, .string gr, .int .u8 st, .int .u64 num, .slice ao ms.length cap, .int .u8 pr] w fun e w' => e = .returned (.bool true) ∧ Below w.heap.size w w' := by
  have hmk := run_make35 ms.length (by omega)
  have HZ' : Hid (0 < ms.length → ∃ b off, ao = some ⟨b, off, none⟩ ∧ b < w.heap.size ∧ ∀ k j, k < ms.length → j < 4 → w.cell? ⟨b, off + k * 4 + j, none⟩ = (ms.getD k mem0).cells[j]?) := hz
  obtain ⟨sp0, sp1⟩ := hsp
  obtain ⟨st0, st1⟩ := hst
  obtain ⟨pr0, pr1⟩ := hpr
  clear hz
  go_enter Yba.func4, Yba.ntmps4
  go_upto_block 0 with fail
  go_cut [] from 36 to 72 (fun wc => Hid (Below w.heap.size w wc ∧ ∃ A, Blk wc w.heap.size 35 A ∧ A.toList = memCells ms))
  case first =>
    as_aux_lemma =>
      go_wp2
      go_loopw [44] (fun i wr => ∃ k : Nat, k ≤ ms.length ∧ i = .int .i64 k ∧ Hid (Below w.heap.size w wr ∧ ∃ A, Blk wr w.heap.size 35 A ∧ A.toList = memCells (ms.take k ++ List.replicate (ms.length - k) mem0))) (fun i _ => ms.length - (intOf i).toNat)
      case atStart => exact ⟨0, Nat.zero_le _, rfl, (Below.refl _ _).alloc (Nat.le_refl _) _, _, Blk.new _ _ _, by simpa using made35_toList _⟩
      case round =>
        obtain ⟨k, hk, rfl, hinv⟩ := hrel
        by_cases hlt : k < ms.length
        · obtain ⟨hbel, A, hA, hAt⟩ := hinv.out
          obtain ⟨b, off, rfl, hb, hc⟩ := HZ'.out (by omega)
          obtain ⟨m, hm⟩ : ∃ m, m = ms.getD k mem0 := ⟨_, rfl⟩
          have hcm : ∀ j, j < 4 → wr.cell? ⟨b, off + k * 4 + j, none⟩ = m.cells[j]? := fun j hj => by rw [hbel.cell (p := ⟨b, off + k * 4 + j, none⟩) hb, hc k j hlt hj, hm]
          have e0 : wr.cell? ⟨b, off + k * 4, none⟩ = some (.string m.nm) := hcm 0 (by decide)
          have e1 : wr.cell? ⟨b, off + k * 4 + 1, none⟩ = some (.int .u64 m.inc) := hcm 1 (by decide)
          have e2 : wr.cell? ⟨b, off + k * 4 + 2, none⟩ = some (.string m.ad) := hcm 2 (by decide)
          have e3 : wr.cell? ⟨b, off + k * 4 + 3, none⟩ = some (.string m.tk) := hcm 3 (by decide)
          have hAs : A.size = ms.length * 4 := by have := congrArg List.length hAt; simpa [memCells_length, Nat.min_eq_left hk, Nat.add_sub_cancel' hk] using this
          have g0 : wr.cell? ⟨w.heap.size, k * 4, none⟩ = some (A.getD (k * 4) default) := by rw [hA.cell]; simp [Array.getD, show k * 4 < A.size by omega]
          have g1 : wr.cell? ⟨w.heap.size, k * 4 + 1, none⟩ = some (A.getD (k * 4 + 1) default) := by rw [hA.cell]; simp [Array.getD, show k * 4 + 1 < A.size by omega]
          have g2 : wr.cell? ⟨w.heap.size, k * 4 + 1 + 1, none⟩ = some (A.getD (k * 4 + 2) default) := by rw [hA.cell]; simp [Array.getD, show k * 4 + 1 + 1 < A.size by omega]
          have g3 : wr.cell? ⟨w.heap.size, k * 4 + 1 + 1 + 1, none⟩ = some (A.getD (k * 4 + 3) default) := by rw [hA.cell]; simp [Array.getD, show k * 4 + 1 + 1 + 1 < A.size by omega]
          have gf := hA.frozen
          have hbn : b ≠ w.heap.size := by omega
          have hkL : (k : Int) < (ms.length : Int) := by omega
          have HX : Hid (Below w.heap.size w wr ∧ Blk wr w.heap.size 35 A ∧ A.toList = memCells (ms.take k ++ List.replicate (ms.length - k) mem0) ∧ m = ms.getD k mem0) := ⟨hbel, hA, hAt, hm⟩
          clear hbel hA hAt hm hcm hc hAs hinv
          go_wp2
          go_region_held3 (fun w' => w'.cell? ⟨b, off + k * 4, none⟩ = some (.string m.nm) ∧ w'.cell? ⟨b, off + k * 4 + 1, none⟩ = some (.int .u64 m.inc) ∧ w'.cell? ⟨b, off + k * 4 + 2, none⟩ = some (.string m.ad) ∧ w'.cell? ⟨b, off + k * 4 + 3, none⟩ = some (.string m.tk)) (simp [go_sem, *]) (fail)
          go_wp2
          go_roundw
          case rel => exact ⟨k + 1, by omega, by go_num, fill_round hlt HX.out.1 HX.out.2.1 HX.out.2.2.1 HX.out.2.2.2⟩
          case measure => simp [intOf]; omega
        · go_wp2
          go_meet
          obtain rfl : k = ms.length := by omega
          simpa using hinv
  case rest =>
    have hlt0 := (show ∃ A, Blk wc w.heap.size 35 A ∧ A.toList = memCells ms from hcut.out.2)
    obtain ⟨A, hA, hAt⟩ := hlt0
    have hbel := hcut.out.1
    clear hcut
    obtain ⟨sb, hsb⟩ : ∃ sb, wc.heap.size = sb := ⟨_, rfl⟩
    have hBlt : w.heap.size < sb := by rw [← hsb]; exact hA.lt
    have hBlt' := hA.lt
    go_upto_region 10 with fail
    go_cut [85] from 73 to 85 (fun s85 wx => s85 = .bool (decide (0 < ms.length) && (sp % 2 == 0)) ∧ wx = wc.alloc (.cells #[.string sn, .int .u64 si, .string sa, .string ⟨#[]⟩] 35))
    case first =>
      by_cases h1 : 0 < ms.length
      · go_wp2
        go_meet
        case rel =>
          exact ⟨by simp [h1], rfl⟩
      · go_wp2
        go_meet
        case rel => exact ⟨by simp [h1], rfl⟩
    case rest =>
      obtain ⟨rfl, rfl⟩ := hcut
      go_upto_if 85 with fail
      go_cut [] from 73 to 96 (fun wx => Hid (Below w.heap.size w wx ∧ (∃ A, Blk wx w.heap.size 35 A ∧ A.toList = memCells ms) ∧ ∃ nm inc, Blk wx sb 35 #[.string nm, .int .u64 inc, .string sa, .string ⟨#[]⟩]))
      case first =>
        by_cases h1 : 0 < ms.length ∧ sp % 2 = 0
        · obtain ⟨h1a, h1b⟩ := h1
          rw [show (decide (0 < ms.length) && (sp % 2 == 0)) = true from by simp [h1a, h1b]]
          clear h1b
          have hx1 : sp / 2 % (ms.length : Int) < (ms.length : Int) := Int.emod_lt_of_pos _ (by omega)
          have hx0 : 0 ≤ sp / 2 % (ms.length : Int) := Int.emod_nonneg _ (by omega)
          have hl1 : (1 : Int) ≤ (ms.length : Int) := by omega
          have hcm : ∀ j, j < 4 → wc.cell? ⟨w.heap.size, (sp / 2 % (ms.length : Int)).toNat * 4 + j, none⟩ = (ms.getD (sp / 2 % (ms.length : Int)).toNat mem0).cells[j]? := fun j hj => by rw [hA.cell, ← Array.getElem?_toList, hAt, memCells_at ms _ j (by omega) hj]
          have e0' := hcm 0 (by decide)
          have e1' := hcm 1 (by decide)
          obtain ⟨mm, hmm⟩ : ∃ mm, mm = ms.getD (sp / 2 % (ms.length : Int)).toNat mem0 := ⟨_, rfl⟩
          rw [← hmm] at e0' e1'
          have e0 : wc.cell? ⟨w.heap.size, (sp / 2 % (ms.length : Int)).toNat * 4, none⟩ = some (.string mm.nm) := e0'
          have e1 : wc.cell? ⟨w.heap.size, (sp / 2 % (ms.length : Int)).toNat * 4 + 1, none⟩ = some (.int .u64 mm.inc) := e1'
          clear e0' e1' hmm
          have HA : Hid (Blk wc w.heap.size 35 A ∧ A.toList = memCells ms ∧ Below w.heap.size w wc) := ⟨hA, hAt, hbel⟩
          clear hcm hA hAt hbel
          go_wp2
          go_meet
          case rel => exact ⟨(HA.out.2.2.alloc (Nat.le_of_lt hBlt') _), ⟨A, HA.out.1.alloc _, HA.out.2.1⟩, _, _, by rw [← hsb]; exact Blk.new _ _ _⟩
        · have hB : (decide (0 < ms.length) && (sp % 2 == 0)) = false := by rw [Bool.eq_false_iff]; intro h; simp at h; exact h1 h
          rw [hB]
          clear h1
          go_wp2
          go_meet
          case rel => exact ⟨(hbel.alloc (Nat.le_of_lt hBlt') _), ⟨A, hA.alloc _, hAt⟩, _, _, by rw [← hsb]; exact Blk.new _ _ _⟩
      case rest =>
        obtain ⟨np, hnp2, hnp⟩ : ∃ np : Nat, np ≤ 2 ∧ pr % 3 = (np : Int) := ⟨(pr % 3).toNat, by omega, by omega⟩
        have hmk3 := run_make83 np (by omega)
        obtain ⟨pb, hpb⟩ : ∃ pb, wc.heap.size = pb := ⟨_, rfl⟩
        have hBp : w.heap.size ≤ pb := by rw [← hpb]; exact hcut.out.1.size
        go_upto_block 2 with (go_at_call 13; refine (status_same st st0 st1 _).mono ?_; rintro e w' ⟨rfl, rfl⟩)
        have HNP : Hid (pr % 3 = (np : Int)) := hnp
        clear hnp hmk hmk3
        go_cut [25] from 97 to 119 (fun s25 wx => Hid (Below w.heap.size w wx ∧ (∃ A, Blk wx w.heap.size 35 A ∧ A.toList = memCells ms) ∧ (∃ nm inc, Blk wx sb 35 #[.string nm, .int .u64 inc, .string sa, .string ⟨#[]⟩]) ∧ ∃ PA, Blk wx pb 83 PA ∧ PA.toList = preCells np))
        case first =>
          go_wp2
          go_loopw [25] (fun i wr => ∃ k : Nat, k ≤ np ∧ i = .int .i64 k ∧ Hid (Below w.heap.size w wr ∧ (∃ A, Blk wr w.heap.size 35 A ∧ A.toList = memCells ms) ∧ (∃ nm inc, Blk wr sb 35 #[.string nm, .int .u64 inc, .string sa, .string ⟨#[]⟩]) ∧ ∃ PA R, Blk wr pb 83 PA ∧ PA.toList = preCells k ++ R ∧ R.length = (np - k) * 19)) (fun i _ => np - (intOf i).toNat)
          case atStart =>
            obtain ⟨hb1, ⟨A1, hA1, hA2⟩, ⟨nm, inc, hs1⟩⟩ := hcut.out
            exact ⟨0, Nat.zero_le _, rfl, hb1.alloc (Nat.le_of_lt hA1.lt) _, ⟨A1, hA1.alloc _, hA2⟩, ⟨nm, inc, hs1.alloc _⟩, _, _, by rw [← hpb]; exact Blk.new _ _ _, rfl, made83_length _⟩
          case round =>
            obtain ⟨k, hk, rfl, hinv⟩ := hrel
            by_cases hlt : k < np
            · obtain ⟨hb1, ⟨A1, hA1, hA2⟩, ⟨nm, inc, hs1⟩, PA, R, hP1, hP2, hP3⟩ := hinv.out
              have hkn : (k : Int) < (np : Int) := by omega
              have HX : Hid (Below w.heap.size w wr ∧ (∃ A, Blk wr w.heap.size 35 A ∧ A.toList = memCells ms) ∧ (∃ nm inc, Blk wr sb 35 #[.string nm, .int .u64 inc, .string sa, .string ⟨#[]⟩]) ∧ Blk wr pb 83 PA ∧ PA.toList = preCells k ++ R ∧ R.length = (np - k) * 19) := ⟨hb1, ⟨A1, hA1, hA2⟩, ⟨nm, inc, hs1⟩, hP1, hP2, hP3⟩
              have hsz : PA.size = k * 19 + (np - k) * 19 := by rw [← Array.length_toList, hP2, List.length_append, preCells_length, hP3]
              have hth : Hid (wr.there pb (k * 19) 19) := hP1.there _ _ (by omega)
              clear hb1 hA1 hA2 hs1 hP1 hP2 hP3 hsz hinv
              go_wp2_with (refine wpList_store_mid ?_ 83 (.tmp 119) (.tmp 118) ?_ pb (k * 19) (preEnv k).toArray ?_ ?_ ?_ ?_ ?_ ?_; (· rfl); (· rfl); (· rfl); (· rfl); (· exact hth.out); (· kernel_rfl); (· exact preEnv_one k))
              go_roundw
              case rel =>
                obtain ⟨hb1, ⟨A1, hA1, hA2⟩, ⟨nm, inc, hs1⟩, hP1, hP2, hP3⟩ := HX.out
                have hpA : w.heap.size ≠ pb := hA1.ne hP1 (by decide)
                have hpS : sb ≠ pb := hs1.ne hP1 (by decide)
                exact ⟨k + 1, by omega, by go_num, below_setCells hBp _ _ hb1, ⟨A1, hA1.setCellsOther hpA _ _, hA2⟩, ⟨nm, inc, hs1.setCellsOther hpS _ _⟩, pre_round hP1 hP2 hP3 hlt⟩
              case measure => simp [intOf]; omega
            · go_wp2
              go_meet
              case rel =>
                obtain rfl : k = np := by omega
                obtain ⟨hb1, hA1, hs1, PA, R, hP1, hP2, hP3⟩ := hinv.out
                obtain rfl : R = [] := List.length_eq_zero_iff.1 (by simpa using hP3)
                exact ⟨hb1, hA1, hs1, PA, hP1, by simpa using hP2⟩
        case rest =>
          obtain ⟨hb1, ⟨A1, hA1, hA2⟩, ⟨nm, inc, hs1⟩, PA, hP1, hP2⟩ := hcut.out
          have hsc := hs1.cell
          have hsl := hs1.lt
          obtain ⟨nb, hnb⟩ : ∃ nb, wc.heap.size = nb := ⟨_, rfl⟩
          have hBn : w.heap.size ≤ nb := by rw [← hnb]; exact hb1.size
          have hsn : sb < nb := by rw [← hnb]; exact hsl
          have hAn : w.heap.size < nb := by rw [← hnb]; exact hA1.lt
          go_upto_region 20 with fail
          go_cut [] from 120 to 131 (fun wx => Hid (∃ ad cap, TailB w wx w.heap.size sb nb nm inc sa (stOf st) num gr ms np ad cap))
          case first =>
            go_wp2_with fail
            refine (probe_any w.heap.size nb w.heap.size np (nodeArr nm inc sa (stOf st) num w.heap.size ms.length gr (.slice (some ⟨pb, 0, none⟩) np np)) A1 ms nm sa (stOf st) gr inc num (.slice (some ⟨pb, 0, none⟩) np np) (preCells np) _ ?_ hBn (hA1.alloc _) hA2 rfl rfl rfl rfl rfl rfl rfl rfl ?_ (by omega) hL).mono ?_
            · have := Blk.new wc 72 (nodeArr nm inc sa (stOf st) num w.heap.size ms.length gr (.slice (some ⟨pb, 0, none⟩) np np)); rw [hnb] at this; exact this
            · have := (hP1.alloc (.cells (nodeArr nm inc sa (stOf st) num w.heap.size ms.length gr (.slice (some ⟨pb, 0, none⟩) np np)) 72)).owns (base := w.heap.size) (size := 19) (n := np) hBp (by unfold maxLen; omega) (by rw [← Array.length_toList, hP2, preCells_length]); rw [hP2] at this; exact this
            · rintro e w1 ⟨rfl, sv', hN1, hO1, hK1⟩
              have HT : Hid (∃ ad cap, TailB w w1 w.heap.size sb nb nm inc sa (stOf st) num gr ms np ad cap) := tail_of hnb hb1 hA1 hA2 hs1 hN1 hO1 hK1
              clear hN1 hO1 hK1
              go_wp2
              go_meet
              case rel => exact HT
          case rest =>
            obtain ⟨ad, cap', HT⟩ := hcut.out
            have HT : Hid (TailB w wc w.heap.size sb nb nm inc sa (stOf st) num gr ms np ad cap') := HT
            clear hcut
            clear hb1 hA1 hA2 hs1 hP1 hP2 hsc hsl hnb
            go_upto_if 134 with fail
            go_cut [27] from 132 to 134 (fun s27 wx => s27 = .string (wgOf (stOf st) gr) ∧ wc = wx)
            case first =>
              by_cases hj : ((stOf st).toList == [106, 111, 105, 110, 105, 110, 103]) = true
              · have HJ : Hid (wgOf (stOf st) gr = ⟨#[]⟩) := by show wgOf (stOf st) gr = ⟨#[]⟩; unfold wgOf; rw [if_pos hj]
                rw [hj]
                clear hj
                go_wp2
                go_meet
                case rel => exact ⟨by rw [HJ.out], rfl⟩
              · have HJ : Hid (wgOf (stOf st) gr = gr) := by show wgOf (stOf st) gr = gr; unfold wgOf; rw [if_neg hj]
                have hj' : ((stOf st).toList == [106, 111, 105, 110, 105, 110, 103]) = false := by revert hj; cases ((stOf st).toList == [106, 111, 105, 110, 105, 110, 103]) <;> simp
                rw [hj']
                clear hj hj'
                go_wp2
                go_meet
                case rel => exact ⟨by rw [HJ.out], rfl⟩
            case rest =>
              obtain ⟨rfl, rfl⟩ := hcut
              have hc61 : wc.cell? ⟨nb, 61, none⟩ = some (.slice ad (np + (others nm inc ms).length) cap') := HT.out.2.2.2.1.cell 61
              have hlen : (np : Int) ≤ (np : Int) + ((others nm inc ms).length : Int) := by omega
              go_upto_block 4 with fail
              clear hc61
              go_cut [29] from 135 to 178 (fun s29 wx => wc = wx)
              case first =>
                as_aux_lemma =>
                  go_wp2
                  go_loop [29] (fun i => ∃ k : Nat, k ≤ np ∧ i = .int .i64 k) (fun i => np - (intOf i).toNat)
                  case atStart => exact ⟨0, Nat.zero_le _, rfl⟩
                  case round =>
                    obtain ⟨k, hk, rfl⟩ := hrel
                    by_cases hlt : k < np
                    · obtain ⟨g, rfl, hg1, hg2, hgc⟩ := HT.out.2.2.2.2.2 (by omega)
                      obtain ⟨p0, p1, p7⟩ := pre_at (X := (others nm inc ms).flatMap (envOf nm inc sa (stOf st) gr num)) (fun j hj => hgc j (by omega)) hlt
                      clear hgc
                      have hkn : (k : Int) < (np : Int) + ((others nm inc ms).length : Int) := by omega
                      go_wp2
                      go_round
                      case rel => exact ⟨k + 1, by omega, by go_num⟩
                      case measure => simp [intOf]; omega
                    · go_wp2
                      go_meet
                      case rel => rfl
              case rest =>
                obtain rfl := hcut
                go_upto_block 6 with fail
                have hq := run_eql33
                go_cut [30] from 180 to 259 (fun s30 wx => s30 = .int .i64 ((np : Int) + ((others nm inc ms).length : Int)) ∧ Hid (Kept (fun _ => True) wc wx))
                case first =>
                  as_aux_lemma =>
                    go_wp2
                    go_loopw [182, 30] (fun i j wr => ∃ k : Nat, k ≤ ms.length ∧ i = .int .i64 k ∧ j = .int .i64 ((np : Int) + ((others nm inc (ms.take k)).length : Int)) ∧ Hid (Kept (fun _ => True) wc wr)) (fun i _ _ => ms.length - (intOf i).toNat)
                    case atStart => exact ⟨0, Nat.zero_le _, rfl, by simp [others], Kept.refl _ _⟩
                    case round =>
                      obtain ⟨k, hk, rfl, rfl, hkp⟩ := hrel
                      by_cases hlt : k < ms.length
                      · obtain ⟨b, off, rfl, hb, hc⟩ := HZ'.out (by omega)
                        obtain ⟨m, hm⟩ : ∃ m, m = ms.getD k mem0 := ⟨_, rfl⟩
                        have hbel : Below w.heap.size w wr := HT.out.1.trans (hkp.out.below (Nat.le_of_lt (HT.out.2.1.elim fun _ h => h.1.lt)) fun _ _ => trivial)
                        have hcm : ∀ j, j < 4 → wr.cell? ⟨b, off + k * 4 + j, none⟩ = m.cells[j]? := fun j hj => by rw [hbel.cell (p := ⟨b, off + k * 4 + j, none⟩) hb, hc k j hlt hj, hm]
                        have e0 : wr.cell? ⟨b, off + k * 4, none⟩ = some (.string m.nm) := hcm 0 (by decide)
                        have e1 : wr.cell? ⟨b, off + k * 4 + 1, none⟩ = some (.int .u64 m.inc) := hcm 1 (by decide)
                        have e2 : wr.cell? ⟨b, off + k * 4 + 2, none⟩ = some (.string m.ad) := hcm 2 (by decide)
                        have hs1 := HT.out.2.2.1.kept hkp.out trivial
                        have s0 : wr.cell? ⟨sb, 0, none⟩ = some (.string nm) := hs1.cell 0
                        have s1 : wr.cell? ⟨sb, 1, none⟩ = some (.int .u64 inc) := hs1.cell 1
                        have hsl := hs1.lt
                        have hbl : b < wr.heap.size := Nat.lt_of_lt_of_le hb hbel.size
                        have hkL : (k : Int) < (ms.length : Int) := by omega
                        have HM : Hid (m = ms.getD k mem0) := hm
                        have hcl : (others nm inc (ms.take k)).length ≤ 1024 := Nat.le_trans (List.length_filter_le _ _) (by simp; omega)
                        clear hcm hc hm hbel hs1
                        go_wp2
                        go_region_held3 (fun w' => w'.cell? ⟨b, off + k * 4, none⟩ = some (.string m.nm) ∧ w'.cell? ⟨b, off + k * 4 + 1, none⟩ = some (.int .u64 m.inc)) (simp [go_sem, *]) (fail)
                        go_upto_if 199 with fail
                        by_cases hoth : other nm inc m = true
                        · have hB : (m.nm.toList == nm.toList && m.inc == inc) = false := by have h := hoth; unfold other at h; revert h; cases (m.nm.toList == nm.toList && m.inc == inc) <;> simp
                          rw [hB]
                          clear hB
                          obtain ⟨g, had, hg1, hg2, hgc⟩ := (HT.out.2.2.2.2.kept hkp.out).2 (by
                            have h := others_at nm inc ms k hlt (by rw [← HM.out]; exact hoth)
                            obtain ⟨h, _⟩ := List.getElem?_eq_some_iff.1 h
                            omega)
                          subst had
                          obtain ⟨hcnt, hrg⟩ := env_range hlt (by rw [← HM.out]; exact hoth) hgc
                          rw [← HM.out] at hrg
                          have HRG : Hid (wr.rangeAt g ((np + (others nm inc (ms.take k)).length) * 19) (envOf nm inc sa (stOf st) gr num m)) := hrg
                          have hcI : (np : Int) + ((others nm inc (ms.take k)).length : Int) < (np : Int) + ((others nm inc ms).length : Int) := by omega
                          have HOT : Hid (other nm inc m = true) := hoth
                          clear hgc hrg hoth
                          go_upto_region 40 with fail
                          go_upto_region 41 with (first | (refine wpList_load_mid ?_ 83 (.tmp 206) ?_ g ((np + (others nm inc (ms.take k)).length) * 19) ?_ (envOf nm inc sa (stOf st) gr num m) _ ?_ Yba.underlying83 ?_ ?_ ?_; (· rfl); (· rfl); (· rfl); (· exact World.rangeAt_alloc HRG.out _); (· rfl); (· kernel_rfl)) | (refine wpList_store_mid ?_ 83 (.tmp 33) (.tmp 207) ?_ (wr.heap.size + 1) 0 (envOf nm inc sa (stOf st) gr num m).toArray ?_ ?_ ?_ ?_ ?_ ?_; (· rfl); (· rfl); (· rfl); (· rfl); (· exact env_there _ _); (· kernel_rfl); (· exact envOf_one _ _ _ _ _ _ _)))
                          obtain ⟨W', hW'⟩ : ∃ W', World.setCells ((wr.alloc (.cells #[.string m.nm, .int .u64 m.inc] 33)).alloc (.cells #[.string ⟨#[]⟩, .string ⟨#[]⟩, .string ⟨#[]⟩, .int .u64 0, .string ⟨#[]⟩, .slice none 0 0, .pointer none, .int .u64 0, .pointer none, .pointer none, .pointer none, .pointer none, .pointer none, .pointer none, .pointer none, .slice none 0 0, .map none, .string ⟨#[]⟩, .pointer none] 83)).drew (wr.heap.size + 1) 0 (envOf nm inc sa (stOf st) gr num m) = W' := ⟨_, rfl⟩
                          rw [hW']
                          obtain ⟨hK', hE⟩ : Kept (fun _ => True) wr W' ∧ Blk W' (wr.heap.size + 1) 83 (envOf nm inc sa (stOf st) gr num m).toArray := by rw [← hW']; exact env_stored wr #[.string m.nm, .int .u64 m.inc] (envOf nm inc sa (stOf st) gr num m) rfl
                          clear hW'
                          have x0 : W'.cell? ⟨wr.heap.size + 1, 0, none⟩ = some (.string m.ad) := hE.cell 0
                          have x1 : W'.cell? ⟨wr.heap.size + 1, 1, none⟩ = some (.string ⟨#[112, 114, 111, 98, 101]⟩) := hE.cell 1
                          have x2 : W'.cell? ⟨wr.heap.size + 1, 2, none⟩ = some (.string nm) := hE.cell 2
                          have x3 : W'.cell? ⟨wr.heap.size + 1, 3, none⟩ = some (.int .u64 inc) := hE.cell 3
                          have x4 : W'.cell? ⟨wr.heap.size + 1, 4, none⟩ = some (.string sa) := hE.cell 4
                          have x7 : W'.cell? ⟨wr.heap.size + 1, 7, none⟩ = some (.int .u64 num) := hE.cell 7
                          have x17 : W'.cell? ⟨wr.heap.size + 1, 17, none⟩ = some (.string (wgOf (stOf st) gr)) := by rw [hE.cell 17, ← grp_wg]; rfl
                          have HR : Hid (W'.rangeAt (wr.heap.size + 1) 1 [.string ⟨#[112, 114, 111, 98, 101]⟩, .string nm, .int .u64 inc, .string sa, .slice none 0 0, .pointer none, .int .u64 num, .pointer none, .pointer none, .pointer none, .pointer none, .pointer none, .pointer none, .pointer none, .slice none 0 0, .map none, .string (wgOf (stOf st) gr), .pointer none]) := msg_range hE
                          have y0 : W'.cell? ⟨b, off + k * 4 + 2, none⟩ = some (.string m.ad) := by rw [← e2]; exact World.cell?_of_block (w := wr) (hK'.block b hbl trivial)
                          have y1 : W'.cell? ⟨sb, 0, none⟩ = some (.string nm) := by rw [← s0]; exact World.cell?_of_block (w := wr) (hK'.block sb hsl trivial)
                          have y2 : W'.cell? ⟨sb, 1, none⟩ = some (.int .u64 inc) := by rw [← s1]; exact World.cell?_of_block (w := wr) (hK'.block sb hsl trivial)
                          have hEl := hE.lt
                          have hbl' : b < W'.heap.size := Nat.lt_of_lt_of_le hbl hK'.size
                          have hsl' : sb < W'.heap.size := Nat.lt_of_lt_of_le hsl hK'.size
                          have HK' : Hid (Kept (fun _ => True) wr W') := hK'
                          clear hK' hE e0 e1 e2 s0 s1
                          simp only [Act.put, List.setIfInBounds_toArray, List.set_cons_succ, List.set_cons_zero]
                          go_cut [256] from 183 to 258 (fun s256 wx => s256 = .bool false ∧ Hid (Kept (fun _ => True) wr wx))
                          case first =>
                            as_aux_lemma =>
                              have hx := fun x b o h => ext_cell W' x b o h
                              have hne := Ext.some
                              refine wp_region_ext (by kernel_rfl) (by kernel_rfl) ?_
                              repeat (first | (go_big_quiet_want; refine quiet_load_mid 81 (.tmp 252) ?_ (wr.heap.size + 1) 1 ?_ [.string ⟨#[112, 114, 111, 98, 101]⟩, .string nm, .int .u64 inc, .string sa, .slice none 0 0, .pointer none, .int .u64 num, .pointer none, .pointer none, .pointer none, .pointer none, .pointer none, .pointer none, .pointer none, .slice none 0 0, .map none, .string (wgOf (stOf st) gr), .pointer none] _ ?_ Yba.underlying81 ?_ ?_ ?_; (· rfl); (· rfl); (· rintro _ ⟨x, rfl⟩; exact ext_range hEl HR.out x); (· rfl); (· kernel_rfl); simp only [Act.put, List.setIfInBounds_toArray, List.set_cons_succ, List.set_cons_zero]; go_big_quiet_on) | go_big_quiet_step ((go_at_call 15; refine (bare_any _ _ _ _ _ _ _).mono ?_; rintro e w1 ⟨rfl, c, rfl⟩; exact ⟨rfl, _, ext_alloc _ _ _⟩)))
                              refine wpQuiet_nil ?_
                              rintro _ ⟨x, rfl⟩
                              clear hx hne
                              go_wp2
                              go_meet
                              case rel => exact ⟨rfl, HK'.out.trans (ext_kept _ _)⟩
                          case rest =>
                            obtain ⟨rfl, hk2⟩ := hcut
                            go_wp2
                            go_roundw
                            case rel =>
                              refine ⟨k + 1, by omega, by go_num, ?_, hkp.out.trans hk2.out⟩
                              rw [take_snoc_mem ms k hlt, ← HM.out, others_snoc, if_pos HOT.out]
                              go_num
                            case measure => simp [intOf]; omega
                        · have hB : (m.nm.toList == nm.toList && m.inc == inc) = true := by have h := hoth; unfold other at h; revert h; cases (m.nm.toList == nm.toList && m.inc == inc) <;> simp
                          rw [hB]
                          clear hB
                          go_wp2
                          go_roundw
                          case rel =>
                            refine ⟨k + 1, by omega, by go_num, ?_, (hkp.out.alloc _).drew⟩
                            rw [take_snoc_mem ms k hlt, ← HM.out, others_snoc, if_neg hoth, List.append_nil]
                          case measure => simp [intOf]; omega
                      · go_wp2
                        go_meet
                        case rel =>
                          obtain rfl : k = ms.length := by omega
                          rw [List.take_length]
                          exact ⟨rfl, hkp⟩
                case rest =>
                  obtain ⟨rfl, hkp⟩ := hcut
                  clear hq
                  obtain ⟨wx, hwx⟩ : ∃ wx, wx = wc := ⟨_, rfl⟩
                  have HT2 : Hid (TailB w wx w.heap.size sb nb nm inc sa (stOf st) num gr ms np ad cap') := by
                    subst hwx
                    obtain ⟨t1, ⟨A, t2, t3⟩, t4, t5, t6⟩ := HT.out
                    exact ⟨t1.trans (hkp.out.below (Nat.le_of_lt t2.lt) fun _ _ => trivial), ⟨A, t2.kept hkp.out trivial, t3⟩, t4.kept hkp.out trivial, t5.kept hkp.out trivial, t6.kept hkp.out⟩
                  subst hwx
                  clear hkp HT
                  have n16 : wx.cell? ⟨nb, 16, none⟩ = some (.int .u64 num) := HT2.out.2.2.2.1.cell 16
                  have n17 : wx.cell? ⟨nb, 17, none⟩ = some (.slice (some ⟨w.heap.size, 0, none⟩) ms.length ms.length) := HT2.out.2.2.2.1.cell 17
                  go_upto_block 8 with fail
                  clear n16 n17
                  go_cut [] from 260 to 335 (fun wy => Hid (Kept (fun _ => True) wx wy))
                  case first =>
                    as_aux_lemma =>
                      go_wp2
                      go_loopw [284] (fun i wr => ∃ k : Nat, k ≤ ms.length ∧ i = .int .i64 k ∧ Hid (Kept (fun _ => True) wx wr)) (fun i _ => ms.length - (intOf i).toNat)
                      case atStart => exact ⟨0, Nat.zero_le _, rfl, Kept.refl _ _⟩
                      case round =>
                        obtain ⟨k, hk, rfl, hkp⟩ := hrel
                        by_cases hlt : k < ms.length
                        · obtain ⟨b, off, rfl, hb, hc⟩ := HZ'.out (by omega)
                          obtain ⟨m, hm⟩ : ∃ m, m = ms.getD k mem0 := ⟨_, rfl⟩
                          obtain ⟨t1, ⟨A, t2, t3⟩, t4, t5, t6⟩ := HT2.out
                          have hbel : Below w.heap.size w wr := t1.trans (hkp.out.below (Nat.le_of_lt t2.lt) fun _ _ => trivial)
                          have hcm : ∀ j, j < 4 → wr.cell? ⟨b, off + k * 4 + j, none⟩ = m.cells[j]? := fun j hj => by rw [hbel.cell (p := ⟨b, off + k * 4 + j, none⟩) hb, hc k j hlt hj, hm]
                          have e0 : wr.cell? ⟨b, off + k * 4, none⟩ = some (.string m.nm) := hcm 0 (by decide)
                          have e1 : wr.cell? ⟨b, off + k * 4 + 1, none⟩ = some (.int .u64 m.inc) := hcm 1 (by decide)
                          have e2 : wr.cell? ⟨b, off + k * 4 + 2, none⟩ = some (.string m.ad) := hcm 2 (by decide)
                          have e3 : wr.cell? ⟨b, off + k * 4 + 3, none⟩ = some (.string m.tk) := hcm 3 (by decide)
                          have hM1 := t2.kept hkp.out trivial
                          have hcb : ∀ j, j < 4 → wr.cell? ⟨w.heap.size, k * 4 + j, none⟩ = m.cells[j]? := fun j hj => by rw [hM1.cell, ← Array.getElem?_toList, t3, memCells_at ms k j hlt hj, hm]
                          have f0 : wr.cell? ⟨w.heap.size, k * 4, none⟩ = some (.string m.nm) := hcb 0 (by decide)
                          have f1 : wr.cell? ⟨w.heap.size, k * 4 + 1, none⟩ = some (.int .u64 m.inc) := hcb 1 (by decide)
                          have f2 : wr.cell? ⟨w.heap.size, k * 4 + 1 + 1, none⟩ = some (.string m.ad) := hcb 2 (by decide)
                          have f3 : wr.cell? ⟨w.heap.size, k * 4 + 1 + 1 + 1, none⟩ = some (.string m.tk) := hcb 3 (by decide)
                          have n17 : wr.cell? ⟨nb, 17, none⟩ = some (.slice (some ⟨w.heap.size, 0, none⟩) ms.length ms.length) := (t5.kept hkp.out trivial).cell 17
                          have hbl : b < wr.heap.size := Nat.lt_of_lt_of_le hb hbel.size
                          have hkL : (k : Int) < (ms.length : Int) := by omega
                          clear hcm hcb hc hm hbel hM1 t1 t2 t3 t4 t5 t6
                          go_wp2
                          go_quiet (fail)
                          go_wp2
                          go_roundw
                          case rel => exact ⟨k + 1, by omega, by go_num, by have h := hkp.out.alloc (.cells #[.string m.nm, .int .u64 m.inc, .string m.ad, .string m.tk] 35); exact ⟨h.os, h.tape, h.output, h.size, h.block⟩⟩
                          case measure => simp [intOf]; omega
                        · go_wp2
                          go_meet
                          case rel => exact hkp
                  case rest =>
                    obtain ⟨t1, ⟨A, t2, t3⟩, t4, t5, t6⟩ := HT2.out
                    have hN := t5.kept hcut.out trivial
                    have hS := t4.kept hcut.out trivial
                    have hbel : Below w.heap.size w wc := t1.trans (hcut.out.below (Nat.le_of_lt t2.lt) fun _ _ => trivial)
                    have HB : Hid (Below w.heap.size w wc) := hbel
                    have c0 : wc.cell? ⟨nb, 0, none⟩ = some (.string nm) := hN.cell 0
                    have c1 : wc.cell? ⟨nb, 1, none⟩ = some (.int .u64 inc) := hN.cell 1
                    have c2 : wc.cell? ⟨nb, 2, none⟩ = some (.string sa) := hN.cell 2
                    have c3 : wc.cell? ⟨nb, 3, none⟩ = some (.string ⟨#[]⟩) := hN.cell 3
                    have c4 : wc.cell? ⟨nb, 4, none⟩ = some (.string (stOf st)) := hN.cell 4
                    have c20 : wc.cell? ⟨nb, 20, none⟩ = some (.string gr) := hN.cell 20
                    have c62 : wc.cell? ⟨nb, 62, none⟩ = some (.slice none 0 0) := hN.cell 62
                    have c63 : wc.cell? ⟨nb, 63, none⟩ = some (.slice none 0 0) := hN.cell 63
                    have s0 : wc.cell? ⟨sb, 0, none⟩ = some (.string nm) := hS.cell 0
                    have s1 : wc.cell? ⟨sb, 1, none⟩ = some (.int .u64 inc) := hS.cell 1
                    have s2 : wc.cell? ⟨sb, 2, none⟩ = some (.string sa) := hS.cell 2
                    have s3 : wc.cell? ⟨sb, 3, none⟩ = some (.string ⟨#[]⟩) := hS.cell 3
                    have hq := run_eql35_same
                    have hn30 := fun (w : World) (a : Option Addr) (n c : Nat) => Lib.run_eql_slice_nil (P := Yba.prog) w 30 35 a n c 0 0 Yba.underlying30
                    have hn68 := fun (w : World) (a : Option Addr) (n c : Nat) => Lib.run_eql_slice_nil (P := Yba.prog) w 68 _ a n c 0 0 Yba.underlying68
                    clear hN hS hbel t1 t2 t3 t4 t5 t6 HT2 hcut
                    go_wp2
                    go_quiet (fail)
                    go_wp2
                    go_ret
                    exact ⟨rfl, below_drewN HB.out _⟩
end Go.Proofs.Ybulkcdnw
