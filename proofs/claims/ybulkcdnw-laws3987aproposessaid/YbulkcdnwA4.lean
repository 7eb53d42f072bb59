/-
  (*Node).suspicions.
-/
import Derived.Test.YbulkcdnwA3
namespace Go.Proofs.Ybulkcdnw
open Go.RowKit
set_option maxRecDepth 100000
set_option linter.unusedSimpArgs false
set_option linter.unusedVariables false

def idOf (m : Mem) : ByteArray × Int := (m.nm, m.inc)
/-- The members that stand in the map. -/
def susL (ks : List (ByteArray × Int)) (ms : List Mem) : List (ByteArray × Int) := (ms.filter fun m => hasK ks (idOf m)).map idOf
theorem susL_snoc (ks : List (ByteArray × Int)) (ms : List Mem) (m : Mem) : susL ks (ms ++ [m]) = susL ks ms ++ (if hasK ks (idOf m) = true then [idOf m] else []) := by
  unfold susL
  rw [List.filter_append, List.map_append]
  by_cases h : hasK ks (idOf m) = true <;> simp [h]
theorem susL_len (ks : List (ByteArray × Int)) (ms : List Mem) : (susL ks ms).length ≤ ms.length := by
  unfold susL
  rw [List.length_map]
  exact List.length_filter_le _ _
theorem take_snoc_mem (ms : List Mem) (k : Nat) (hk : k < ms.length) : ms.take (k + 1) = ms.take k ++ [ms.getD k mem0] := by
  rw [List.take_add_one, List.getElem?_eq_getElem hk]
  simp [List.getD, hk]

theorem cells_new2 (w : World) (C : Obj) (n : Nat) (l : List Value) (t : TypeId) (j : Nat) (u : Value) (h : l[j]? = some u) : (((w.alloc C).drewN n).alloc (.cells l.toArray t)).cell? ((⟨w.heap.size + 1, 0, none⟩ : Addr).add j) = some u := by
  have := cells_new ((w.alloc C).drewN n) l t j u h
  simpa using this

structure SI (w wr : World) (v : Value) (l : List (ByteArray × Int)) : Prop where
  own : wr.ownsRow w.heap.size 33 2 v l.length (idCells l)
  kept : Kept (fun _ => True) w wr
theorem SI.step {w wr w2 : World} {v v2 : Value} {l : List (ByteArray × Int)} {m : ByteArray × Int} {o o' : Obj} {n : Nat} (h : SI w wr v l) (ho : w2.ownsRow w.heap.size 33 2 v2 (l.length + 1) (idCells l ++ [.string m.1, .int .u64 m.2])) (hg : (((wr.alloc o).drewN n).alloc o').grownBy w2 v.ownBlock) : SI w w2 v2 (l ++ [m]) := by
  refine ⟨?_, ?_⟩
  · rw [idCells_snoc, List.length_append]; exact ho
  · have K := ((h.kept.alloc o).drewN n).alloc o'
    exact K.grown hg (fun k hk hlt _ => by have := own_ge h.own k hk; omega)

set_option maxHeartbeats 1000000 in
theorem susp_any (nb mb sb : Nat) (N M : Array Value) (ms : List Mem) (ks : List (ByteArray × Int)) (w : World) (hN : Blk w nb 72 N) (hM : Blk w mb 35 M) (hMs : M.toList = memCells ms) (hl : ms.length ≤ 1000)
    (h17 : N[17]? = some (.slice (some ⟨mb, 0, none⟩) ms.length ms.length)) (h39 : N[39]? = some (.map (some sb))) (hmp : Mp w sb ks) :
    Calls Yba.prog 36 #[.pointer (some ⟨nb, 0, none⟩)] w fun e w' => ∃ v, e = .returned v ∧ OwnI w' v (susL ks ms) ∧ Kept (fun _ => True) w w' := by
  obtain ⟨i1, hji, hy0, hy1, hy2⟩ := info_parts info33
  have c17 : w.cell? ⟨nb, 17, none⟩ = some (.slice (some ⟨mb, 0, none⟩) ms.length ms.length) := (hN.cell 17).trans h17
  go_enter Yba.func36, Yba.ntmps36
  go_wp2
  have HN := Shy.mk (And.intro hN (And.intro hM (And.intro hMs hmp)))
  clear hN hM hMs hmp
  go_loopw [3, 12] (fun v i wr => ∃ k : Nat, k ≤ ms.length ∧ i = .int .i64 k ∧ Shy (SI w wr v (susL ks (ms.take k)))) (fun _ i _ => ms.length - (intOf i).toNat)
  case atStart => exact ⟨0, Nat.zero_le _, rfl, ⟨⟨⟨rfl, .inl ⟨rfl, rfl⟩⟩, Kept.refl _ _⟩⟩⟩
  case round =>
    obtain ⟨k, hk, rfl, hinv⟩ := hrel
    have hN1 := HN.out.1.kept hinv.out.kept trivial
    have hM1 := HN.out.2.1.kept hinv.out.kept trivial
    have hP1 := HN.out.2.2.2.kept hinv.out.kept trivial
    have d39 : wr.cell? ⟨nb, 39, none⟩ = some (.map (some sb)) := (hN1.cell 39).trans h39
    have ltn := hN1.lt
    have ltm := hM1.lt
    have lts := hP1.lt
    by_cases hlt : k < ms.length
    · obtain ⟨m, hm⟩ : ∃ m, m = ms.getD k mem0 := ⟨_, rfl⟩
      have hcm : ∀ j, j < 4 → wr.cell? ⟨mb, k * 4 + j, none⟩ = m.cells[j]? := fun j hj => by
        rw [hM1.cell, ← Array.getElem?_toList, HN.out.2.2.1, memCells_at ms k j hlt hj, hm]
      have e0 : wr.cell? ⟨mb, k * 4, none⟩ = some (.string m.nm) := hcm 0 (by decide)
      have e1 : wr.cell? ⟨mb, k * 4 + 1, none⟩ = some (.int .u64 m.inc) := hcm 1 (by decide)
      have e2 : wr.cell? ⟨mb, k * 4 + 1 + 1, none⟩ = some (.string m.ad) := hcm 2 (by decide)
      have e3 : wr.cell? ⟨mb, k * 4 + 1 + 1 + 1, none⟩ = some (.string m.tk) := hcm 3 (by decide)
      have hlk : ∀ (C : Array Value) (n : Nat), (Instr.lookup 44 (.map (some sb)) (.agg #[.string m.nm, .int .u64 m.inc]) false).run Yba.prog ((wr.alloc (.cells C 35)).drewN n) = .ok (.bool (hasK ks (m.nm, m.inc))) ((wr.alloc (.cells C 35)).drewN n) := fun C n =>
        lk44 (hP1.kept (((Kept.refl (fun _ => True) wr).alloc _).drewN n) trivial) _ _
      have HS := Shy.mk hm
      obtain ⟨l, hll⟩ : ∃ l, susL ks (ms.take k) = l := ⟨_, rfl⟩
      rw [hll] at hinv
      have HL := Shy.mk hll
      have hlen : l.length ≤ 1000 := by
        rw [← hll]
        have a1 := susL_len ks (ms.take k)
        have a2 : (ms.take k).length ≤ k := List.length_take_le _ _
        omega
      clear hcm hm hN1 hM1 hP1 hll
      have ho := hinv.out.own
      go_wp2
      go_quiet (fail)
      cases hb : hasK ks (m.nm, m.inc) with
      | true =>
        go_wp2_with (at_builtin; refine wpList_append_own _ rfl (.tmp 23) (.tmp 26) 37 rfl w.heap.size 33 i1 zero33 2 24 Yba.underlying37 hji hy0 hy1 hy2 rfl (by decide) _ _ _ rfl (own_kept ho (((((Kept.refl (fun _ => True) wr).alloc _).drewN _)).alloc _) (fun _ _ _ _ => trivial)) ⟨wr.heap.size + 1, 0, none⟩ 1 1 [.string m.nm, .int .u64 m.inc] rfl rfl ?c1 ?c2 ?c3 ?c4 ?c5 ?_)
        case c1 => exact cells_new2 _ _ _ [.string m.nm, .int .u64 m.inc] _
        case c2 => intro u hu; simp at hu; rcases hu with rfl | rfl <;> rfl
        case c3 => unfold maxLen; omega
        case c4 => omega
        case c5 => have := hinv.out.kept.size; simp; omega
        intro v2 w2 hown2 hgrow2 _
        have HR := Shy.mk (SI.step (m := (m.nm, m.inc)) hinv.out hown2 hgrow2)
        clear hown2 hgrow2 ho
        go_wp2
        go_roundw
        case rel => exact ⟨k + 1, by omega, by go_num, ⟨by rw [take_snoc_mem ms k hlt, susL_snoc, HL.out, ← HS.out, if_pos (by rw [show idOf m = (m.nm, m.inc) from rfl, hb])]; exact HR.out⟩⟩
        case measure => simp [intOf]; omega
      | false =>
        go_wp2
        go_roundw
        case rel => exact ⟨k + 1, by omega, by go_num, ⟨by rw [take_snoc_mem ms k hlt, susL_snoc, HL.out, ← HS.out, if_neg (by rw [show idOf m = (m.nm, m.inc) from rfl, hb]; decide), List.append_nil]; exact ⟨own_kept hinv.out.own (((Kept.refl (fun _ => True) wr).alloc _).drewN _) (fun _ _ _ _ => trivial), (hinv.out.kept.alloc _).drewN _⟩⟩⟩
        case measure => simp [intOf]; omega
    · go_wp2
      go_ret
      obtain rfl : k = ms.length := by omega
      rw [List.take_length] at hinv
      exact ⟨_, rfl, own_base hinv.out.own (Nat.zero_le _), hinv.out.kept⟩
end Go.Proofs.Ybulkcdnw
