/-
  The walk of the law Built.
-/
import Derived.Test.YbulkcdqoFmtWalkD
namespace Go.Proofs.YbulkcdqoFmt
open Go.RowKit Go.Extern.Stop Go.Stop Go.Extern
set_option maxRecDepth 100000
set_option linter.unusedSimpArgs false
set_option linter.unusedVariables false

theorem BI_mono {w wr : World} {o : Nat} {bs : ByteArray} {v : Value} {f : Bool} {N M : Nat} (h : BI w wr o bs v f N) (hm : N ≤ M) : BI w wr o bs v f M := by
  obtain ⟨l, h1, h2, h3⟩ := h
  exact ⟨l, h1, Nat.le_trans h2 hm, h3⟩
theorem flag_same (x : Int) (k : Nat) (h : ¬ (k : Int) = x) : (true && decide (x < ((k + 1 : Nat) : Int))) = (true && decide (x < (k : Int))) := by
  congr 1
  exact decide_eq_decide.2 (by omega)
theorem flag_true {x : Int} {k : Nat} (h : (k : Int) = x) : (true && decide (x < ((k + 1 : Nat) : Int))) = true := by
  rw [decide_eq_true (by omega)]
  rfl
theorem allB_list (l : List UInt8) : allB ⟨l.toArray⟩ 0 ↔ ∀ b ∈ l, okN (b.toNat : Nat) = true := by
  have hs : (⟨l.toArray⟩ : ByteArray).size = l.length := by show l.toArray.size = _; simp
  have hg : ∀ j (h : j < l.length), (⟨l.toArray⟩ : ByteArray).get! j = l[j] := fun j h => by
    rw [get_eq _ j (by omega)]
    show l.toArray[j]'_ = _
    simp
  constructor
  · intro h b hb
    obtain ⟨j, hj, rfl⟩ := List.mem_iff_getElem.1 hb
    have := h j (Nat.zero_le _) (by omega)
    rwa [hg j hj] at this
  · intro h j _ hj
    rw [hs] at hj
    rw [hg j hj]
    exact h _ (List.getElem_mem hj)

set_option maxHeartbeats 2000000 in
theorem built_any (F : Interp) (ao : Option Addr) (zs : List Nat) (cap : Nat) (bad pos : Int) (wb : Bool) (w : World) (hF : F.answers w.tape) (hL : zs.length ≤ 4096)
    (hbad : 0 ≤ bad ∧ bad ≤ 255) (hpos : 0 ≤ pos ∧ pos ≤ 65535)
    (hz : 0 < zs.length → ∃ b off, ao = some ⟨b, off, none⟩ ∧ b < w.heap.size ∧ ∀ k, k < zs.length → zs.getD k 0 ≤ 255 ∧ w.cell? ⟨b, off + k, none⟩ = some (.int .u8 (zs.getD k 0 : Nat))) :
    Calls Ybaf.prog 4 #[.slice ao zs.length cap, .int .u8 bad, .int .u16 pos, .bool wb] w fun e w' => e = .returned (.bool true) ∧ Below w.heap.size w w' := by
  obtain ⟨bad0, bad1⟩ := hbad
  obtain ⟨pos0, pos1⟩ := hpos
  have HZ : Hid (0 < zs.length → ∃ b off, ao = some ⟨b, off, none⟩ ∧ b < w.heap.size ∧ ∀ k, k < zs.length → zs.getD k 0 ≤ 255 ∧ w.cell? ⟨b, off + k, none⟩ = some (.int .u8 (zs.getD k 0 : Nat))) := ⟨hz⟩
  have HF : Hid (F.answers w.tape) := ⟨hF⟩
  clear hz hF
  go_enter Ybaf.func4, Ybaf.ntmps4
  obtain ⟨i0, hi, hz0, hz1, hz2⟩ := info_parts Ybaf.info5x
  obtain ⟨bs, hbs⟩ : ∃ bs, bs = bads.getD (bad % 12).toNat default := ⟨_, rfl⟩
  obtain ⟨hb2', hbb'⟩ := bads_bad (bad % 12).toNat (by omega)
  rw [← hbs] at hb2' hbb'
  have HB : Hid (bs.size ≤ 2 ∧ ∃ b ∈ bs.data.toList, okN (b.toNat : Nat) = false) := ⟨hb2', hbb'⟩
  have HBS : Hid (bs = bads.getD (bad % 12).toNat default) := ⟨hbs⟩
  clear hb2' hbb' hbs
  have hp1 : pos % ((zs.length : Int) + 1) < (zs.length : Int) + 1 := Int.emod_lt_of_pos _ (by omega)
  have hp0 : 0 ≤ pos % ((zs.length : Int) + 1) := Int.emod_nonneg _ (by omega)
  go_wp2_with (at_make; refine wpList_make_own _ rfl _ _ 27 rfl (w.heap.size + 1) 5 i0 (.int .u8 0) 1 Ybaf.underlying27 hi hz0 hz1 .i64 .i64 ((zs.length : Int) + 2) (zs.length + 2) rfl rfl ?c0 ?c1 ?c2 ?c3 ?_)
  case c0 => simp
  case c1 => rw [hz2]; omega
  case c2 => unfold maxLen; omega
  case c3 => simp
  intro w1 hown1 hgrow1
  have HI0 : Hid (BI w w1 (bad % 12).toNat bs (.slice (some ⟨w.heap.size + 1, 0, none⟩) 0 (zs.length + 2)) false 0) := by
    have hz := hgrow1.size
    simp at hz
    refine ⟨[], hown1, Nat.le_refl _, ?_, by omega, ?_, fun h => absurd h (by decide), fun _ => by simp⟩
    · exact ((Below.refl _ _).alloc (Nat.le_refl _) _).grown hgrow1 (by simp) (fun k hk => by cases hk)
    · rw [hgrow1.cell_far ⟨w.heap.size, (bad % 12).toNat, none⟩ (by simp) (by simp)]
      rw [World.cell?, show (w.alloc _).heap[w.heap.size]? = _ from heap_alloc_new w _, HBS.out]
      obtain ⟨j, hj, hj2⟩ : ∃ j, j = (bad % 12).toNat ∧ j < 12 := ⟨_, rfl, by omega⟩
      rw [← hj]
      match j, hj2 with
      | 0, _ => rfl
      | 1, _ => rfl
      | 2, _ => rfl
      | 3, _ => rfl
      | 4, _ => rfl
      | 5, _ => rfl
      | 6, _ => rfl
      | 7, _ => rfl
      | 8, _ => rfl
      | 9, _ => rfl
      | 10, _ => rfl
      | 11, _ => rfl
  clear hown1 hgrow1
  go_wp2
  go_loopw [12, 13] (fun v i wr => ∃ k : Nat, k ≤ zs.length + 1 ∧ i = .int .i64 k ∧ Hid (BI w wr (bad % 12).toNat bs v (wb && decide (pos % ((zs.length : Int) + 1) < k)) (3 * k))) (fun _ i _ => zs.length + 1 - (intOf i).toNat)
  case atStart => exact ⟨0, Nat.zero_le _, rfl, by rw [show (wb && decide (pos % ((zs.length : Int) + 1) < (0 : Nat))) = false from by rw [decide_eq_false (by omega)]; simp]; exact HI0⟩
  case round =>
    obtain ⟨k, hk, rfl, hinv⟩ := hrel
    cases wb with
    | false =>
      by_cases hle : k ≤ zs.length
      · obtain ⟨l, hown, hll, hbel, hsz, hcb, hf1, hf0⟩ := hinv.out
        by_cases hlt : k < zs.length
        · skip
          obtain ⟨b, off, rfl, hbk, hcz⟩ := HZ.out (by omega)
          obtain ⟨hzb, hcx⟩ := hcz k hlt
          rw [← hbel.cell (p := ⟨b, off + k, none⟩) hbk] at hcx
          obtain ⟨z, hz⟩ : ∃ z, z = zs.getD k 0 := ⟨_, rfl⟩
          rw [← hz] at hzb hcx
          have hz37 : z % 37 < 37 := Nat.mod_lt _ (by omega)
          have HC : Hid (okN (((alpha[z % 37]'hz37).toNat : Nat) : Int) = true) := ⟨by rw [← get_eq alpha (z % 37) hz37]; exact alpha_ok _ hz37⟩
          clear hcz hz
          have HX : Hid (Below w.heap.size w wr ∧ wr.cell? ⟨w.heap.size, (bad % 12).toNat, none⟩ = some (.string bs)) := ⟨hbel, hcb⟩
          have HY : Hid (((false && decide (pos % ((zs.length : Int) + 1) < k)) = true → ∃ b ∈ l, okN (b.toNat : Nat) = false) ∧ ((false && decide (pos % ((zs.length : Int) + 1) < k)) = false → ∀ b ∈ l, okN (b.toNat : Nat) = true)) := ⟨hf1, hf0⟩
          clear hcb hf1 hf0 hbel hinv
          go_wp2_with (at_builtin; refine wpList_append_own _ rfl (.tmp 50) (.tmp 58) 27 rfl (w.heap.size + 1) 5 i0 (.int .u8 0) 1 1 Ybaf.underlying27 hi hz0 hz1 hz2 rfl (by decide) _ _ _ rfl (hown.alloc _) ⟨wr.heap.size, 0, none⟩ 1 1 [.int .u8 ((alpha[z % 37]'hz37).toNat : Nat)] rfl rfl ?c1 ?c2 ?c3 ?c4 ?c5 ?_)
          case c1 =>
            intro j u hj
            match j, hj with
            | 0, hj => simp at hj; subst hj; simp [Addr.add]; rfl
          case c2 => intro u hu; simp at hu; subst hu; rfl
          case c3 => unfold maxLen; omega
          case c4 => omega
          case c5 => simp; omega
          intro v' w2 hown2 hgrow2 _
          have HR : Hid (BI w w2 (bad % 12).toNat bs v' (false && decide (pos % ((zs.length : Int) + 1) < k)) (3 * k + 1)) := ⟨step_ok hown hll HX.out.1 hsz HX.out.2 HY.out.1 HY.out.2 hown2 hgrow2 HC.out⟩
          clear hown2 hgrow2 hown hcx
          go_wp2
          go_roundw
          case rel =>
            refine ⟨k + 1, by omega, by go_num, ⟨?_⟩⟩
            rw [show (false && decide (pos % ((zs.length : Int) + 1) < ((k + 1 : Nat) : Int))) = (false && decide (pos % ((zs.length : Int) + 1) < k)) from by simp]
            exact BI_mono HR.out (by omega)
          case measure => simp [intOf]; omega
        · have hkk : (k : Int) = (zs.length : Int) := by omega
          clear hown hll hbel hsz hcb hf1 hf0
          go_wp2
          go_roundw
          case rel =>
            refine ⟨k + 1, by omega, by go_num, ⟨?_⟩⟩
            rw [show (false && decide (pos % ((zs.length : Int) + 1) < ((k + 1 : Nat) : Int))) = (false && decide (pos % ((zs.length : Int) + 1) < k)) from by simp]
            exact BI_mono hinv.out (by omega)
          case measure => simp [intOf]; omega
      · obtain rfl : k = zs.length + 1 := by omega
        obtain ⟨l, hown, hll, hbel, hsz, hcb, hf1, hf0⟩ := hinv.out
        have hconv := own_string hown
        have HBel : Hid (Below w.heap.size w wr) := ⟨hbel⟩
        have HC : Hid (Calls Ybaf.prog 6 #[.string ⟨l.toArray⟩] wr fun e w' => e = .returned .nilIface ∧ Below wr.heap.size wr w') := ⟨check_good F ⟨l.toArray⟩ wr (by rw [hbel.tape]; exact HF.out) (by show l.toArray.size ≤ _; simp; omega) ((allB_list l).2 (hf0 (by simp)))⟩
        clear hown hbel hcb hf1 hf0 hinv
        go_wp2_with (first | (go_at_call 6; refine HC.out.mono ?_; rintro e w' ⟨rfl, hb⟩))
        go_ret
        exact ⟨rfl, HBel.out.trans ⟨hb.os, hb.tape, hb.output, hb.size, fun j hj => hb.block j (by omega)⟩⟩
    | true =>
      by_cases hle : k ≤ zs.length
      · obtain ⟨l, hown, hll, hbel, hsz, hcb, hf1, hf0⟩ := hinv.out
        by_cases hkp : (k : Int) = pos % ((zs.length : Int) + 1)
        · have hkb : ((k : Int) == pos % ((zs.length : Int) + 1)) = true := by simpa using hkp
          have hb12 : (bad % 12).toNat < 12 := by omega
          have hbq : bad % 12 < 12 := by omega
          have HX : Hid (Below w.heap.size w wr ∧ wr.cell? ⟨w.heap.size, (bad % 12).toNat, none⟩ = some (.string bs)) := ⟨hbel, hcb⟩
          have hbs2 := HB.out.1
          clear hf1 hf0 hbel hinv
          have HK : Hid ((k : Int) = pos % ((zs.length : Int) + 1)) := ⟨hkp⟩
          clear hkp
          go_wp2_with (at_builtin; refine Lib.wpList_append_own_string _ rfl (.tmp 40) (.tmp 45) 27 9 rfl (w.heap.size + 1) 5 i0 Ybaf.underlying27 Ybaf.underlying9 hi hz0 hz1 hz2 _ _ _ rfl hown bs rfl ?d1 ?d2 ?d3 ?_)
          case d1 => unfold maxLen; omega
          case d2 => omega
          case d3 => exact Nat.le_trans (Nat.le_refl _) hsz
          intro v2 w2 hown2 hgrow2 _
          have HR : Hid (BI w w2 (bad % 12).toNat bs v2 true (3 * k + 2)) := ⟨step_bad hown hll HX.out.1 hsz HX.out.2 hown2 hgrow2 HB.out.1 HB.out.2⟩
          clear hown2 hgrow2 hown hll hcb hsz HX hkb
          by_cases hlt : k < zs.length
          · obtain ⟨l2, hown, hll, hbel, hsz, hcb, hf1, hf0⟩ := HR.out
            obtain ⟨b, off, rfl, hbk, hcz⟩ := HZ.out (by omega)
            obtain ⟨hzb, hcx⟩ := hcz k hlt
            rw [← hbel.cell (p := ⟨b, off + k, none⟩) hbk] at hcx
            obtain ⟨z, hz⟩ : ∃ z, z = zs.getD k 0 := ⟨_, rfl⟩
            rw [← hz] at hzb hcx
            have hz37 : z % 37 < 37 := Nat.mod_lt _ (by omega)
            have HC : Hid (okN (((alpha[z % 37]'hz37).toNat : Nat) : Int) = true) := ⟨by rw [← get_eq alpha (z % 37) hz37]; exact alpha_ok _ hz37⟩
            clear hcz hz
            have HX : Hid (Below w.heap.size w w2 ∧ w2.cell? ⟨w.heap.size, (bad % 12).toNat, none⟩ = some (.string bs)) := ⟨hbel, hcb⟩
            have HY : Hid (∃ b ∈ l2, okN (b.toNat : Nat) = false) := ⟨hf1 rfl⟩
            clear hcb hf1 hf0 hbel
            go_wp2_with (at_builtin; refine wpList_append_own _ rfl (.tmp 50) (.tmp 58) 27 rfl (w.heap.size + 1) 5 i0 (.int .u8 0) 1 1 Ybaf.underlying27 hi hz0 hz1 hz2 rfl (by decide) _ _ _ rfl (hown.alloc _) ⟨w2.heap.size, 0, none⟩ 1 1 [.int .u8 ((alpha[z % 37]'hz37).toNat : Nat)] rfl rfl ?c1 ?c2 ?c3 ?c4 ?c5 ?_)
            case c1 =>
              intro j u hj
              match j, hj with
              | 0, hj => simp at hj; subst hj; simp [Addr.add]; rfl
            case c2 => intro u hu; simp at hu; subst hu; rfl
            case c3 => unfold maxLen; omega
            case c4 => omega
            case c5 => simp; omega
            intro v' w3 hown3 hgrow3 _
            have HR3 : Hid (BI w w3 (bad % 12).toNat bs v' true (3 * k + 2 + 1)) := ⟨step_ok hown hll HX.out.1 hsz HX.out.2 (fun _ => HY.out) (fun h => absurd h (by decide)) hown3 hgrow3 HC.out⟩
            clear hown3 hgrow3 hown hcx
            go_wp2
            go_roundw
            case rel =>
              refine ⟨k + 1, by omega, by go_num, ⟨?_⟩⟩
              rw [flag_true HK.out]
              exact BI_mono HR3.out (by omega)
            case measure => simp [intOf]; omega
          · have hkk : (k : Int) = (zs.length : Int) := by omega
            go_wp2
            go_roundw
            case rel =>
              refine ⟨k + 1, by omega, by go_num, ⟨?_⟩⟩
              rw [flag_true HK.out]
              exact BI_mono HR.out (by omega)
            case measure => simp [intOf]; omega
        · have hkb : ((k : Int) == pos % ((zs.length : Int) + 1)) = false := by simpa using hkp
          by_cases hlt : k < zs.length
          · skip
            obtain ⟨b, off, rfl, hbk, hcz⟩ := HZ.out (by omega)
            obtain ⟨hzb, hcx⟩ := hcz k hlt
            rw [← hbel.cell (p := ⟨b, off + k, none⟩) hbk] at hcx
            obtain ⟨z, hz⟩ : ∃ z, z = zs.getD k 0 := ⟨_, rfl⟩
            rw [← hz] at hzb hcx
            have hz37 : z % 37 < 37 := Nat.mod_lt _ (by omega)
            have HC : Hid (okN (((alpha[z % 37]'hz37).toNat : Nat) : Int) = true) := ⟨by rw [← get_eq alpha (z % 37) hz37]; exact alpha_ok _ hz37⟩
            clear hcz hz
            have HX : Hid (Below w.heap.size w wr ∧ wr.cell? ⟨w.heap.size, (bad % 12).toNat, none⟩ = some (.string bs)) := ⟨hbel, hcb⟩
            have HY : Hid (((true && decide (pos % ((zs.length : Int) + 1) < k)) = true → ∃ b ∈ l, okN (b.toNat : Nat) = false) ∧ ((true && decide (pos % ((zs.length : Int) + 1) < k)) = false → ∀ b ∈ l, okN (b.toNat : Nat) = true)) := ⟨hf1, hf0⟩
            clear hcb hf1 hf0 hbel hinv
            go_wp2_with (at_builtin; refine wpList_append_own _ rfl (.tmp 50) (.tmp 58) 27 rfl (w.heap.size + 1) 5 i0 (.int .u8 0) 1 1 Ybaf.underlying27 hi hz0 hz1 hz2 rfl (by decide) _ _ _ rfl (hown.alloc _) ⟨wr.heap.size, 0, none⟩ 1 1 [.int .u8 ((alpha[z % 37]'hz37).toNat : Nat)] rfl rfl ?c1 ?c2 ?c3 ?c4 ?c5 ?_)
            case c1 =>
              intro j u hj
              match j, hj with
              | 0, hj => simp at hj; subst hj; simp [Addr.add]; rfl
            case c2 => intro u hu; simp at hu; subst hu; rfl
            case c3 => unfold maxLen; omega
            case c4 => omega
            case c5 => simp; omega
            intro v' w2 hown2 hgrow2 _
            have HR : Hid (BI w w2 (bad % 12).toNat bs v' (true && decide (pos % ((zs.length : Int) + 1) < k)) (3 * k + 1)) := ⟨step_ok hown hll HX.out.1 hsz HX.out.2 HY.out.1 HY.out.2 hown2 hgrow2 HC.out⟩
            clear hown2 hgrow2 hown hcx
            go_wp2
            go_roundw
            case rel =>
              refine ⟨k + 1, by omega, by go_num, ⟨?_⟩⟩
              rw [show (true && decide (pos % ((zs.length : Int) + 1) < ((k + 1 : Nat) : Int))) = (true && decide (pos % ((zs.length : Int) + 1) < k)) from by exact flag_same _ _ hkp]
              exact BI_mono HR.out (by omega)
            case measure => simp [intOf]; omega
          · have hkk : (k : Int) = (zs.length : Int) := by omega
            clear hown hll hbel hsz hcb hf1 hf0
            go_wp2
            go_roundw
            case rel =>
              refine ⟨k + 1, by omega, by go_num, ⟨?_⟩⟩
              rw [show (true && decide (pos % ((zs.length : Int) + 1) < ((k + 1 : Nat) : Int))) = (true && decide (pos % ((zs.length : Int) + 1) < k)) from by exact flag_same _ _ hkp]
              exact BI_mono hinv.out (by omega)
            case measure => simp [intOf]; omega
      · obtain rfl : k = zs.length + 1 := by omega
        obtain ⟨l, hown, hll, hbel, hsz, hcb, hf1, hf0⟩ := hinv.out
        have hconv := own_string hown
        have HBel : Hid (Below w.heap.size w wr) := ⟨hbel⟩
        have HC : Hid (Calls Ybaf.prog 6 #[.string ⟨l.toArray⟩] wr fun e w' => (∃ a, e = .returned (.iface 36 (.pointer (some a)))) ∧ Below wr.heap.size wr w') := ⟨check_bad F ⟨l.toArray⟩ wr (by rw [hbel.tape]; exact HF.out) (by show l.toArray.size ≤ _; simp; omega) (fun h => by obtain ⟨b, h1, h2⟩ := hf1 (by simp; omega); rw [(allB_list l).1 h b h1] at h2; cases h2)⟩
        clear hown hbel hcb hf1 hf0 hinv
        go_wp2_with (first | (go_at_call 6; refine HC.out.mono ?_; rintro e w' ⟨⟨a, rfl⟩, hb⟩))
        go_ret
        exact ⟨rfl, HBel.out.trans ⟨hb.os, hb.tape, hb.output, hb.size, fun j hj => hb.block j (by omega)⟩⟩
end Go.Proofs.YbulkcdqoFmt
