/-
  (*Node).leader.
-/
import Derived.Test.YbulkcdnwA4
import Derived.Laws.Rows
namespace Go.Proofs.Ybulkcdnw
open Go.RowKit
set_option maxRecDepth 100000
set_option linter.unusedSimpArgs false
set_option linter.unusedVariables false

set_option maxHeartbeats 1000000 in
theorem clo69 (nb sb cb : Nat) (N : Array Value) (ks : List (ByteArray × Int)) (a c d : ByteArray) (b : Int) (w : World) (hN : Blk w nb 72 N) (hC : Blk w cb 52 #[.pointer (some ⟨nb, 0, none⟩)]) (h39 : N[39]? = some (.map (some sb))) (hmp : Mp w sb ks) :
    Calls Yba.prog 69 #[.agg #[.string a, .int .u64 b, .string c, .string d], .pointer (some ⟨cb, 0, none⟩)] w fun e w' => e = .returned (.bool (!hasK ks (a, b))) ∧ Kept (fun _ => True) w w' := by
  have c39 : w.cell? ⟨nb, 39, none⟩ = some (.map (some sb)) := (hN.cell 39).trans h39
  have cc : w.cell? ⟨cb, 0, none⟩ = some (.pointer (some ⟨nb, 0, none⟩)) := hC.cell 0
  have ltn := hN.lt
  have ltc := hC.lt
  have hlk : ∀ (C : Array Value) (n : Nat), (Instr.lookup 44 (.map (some sb)) (.agg #[.string a, .int .u64 b]) false).run Yba.prog ((w.alloc (.cells C 35)).drewN n) = .ok (.bool (hasK ks (a, b))) ((w.alloc (.cells C 35)).drewN n) := fun C n =>
    lk44 (hmp.kept (((Kept.refl (fun _ => True) w).alloc _).drewN n) trivial) _ _
  clear hN hC hmp
  go_enter Yba.func69, Yba.ntmps69
  go_wp2
  go_quiet (fail)
  go_wp2
  go_ret
  exact ⟨rfl, ((Kept.refl _ _).alloc _).drewN _⟩

/-- What a search over the members wants. -/
structure Hood (w : World) (nb mb sb cb : Nat) (N M : Array Value) (ms : List Mem) (ks : List (ByteArray × Int)) : Prop where
  hN : Blk w nb 72 N
  hM : Blk w mb 35 M
  hMs : M.toList = memCells ms
  hC : Blk w cb 52 #[.pointer (some ⟨nb, 0, none⟩)]
  hmp : Mp w sb ks
theorem Hood.kept {w w' : World} {nb mb sb cb : Nat} {N M : Array Value} {ms : List Mem} {ks : List (ByteArray × Int)} (h : Hood w nb mb sb cb N M ms ks) (k : Kept (fun _ => True) w w') : Hood w' nb mb sb cb N M ms ks :=
  ⟨h.hN.kept k trivial, h.hM.kept k trivial, h.hMs, h.hC.kept k trivial, h.hmp.kept k trivial⟩
theorem Hood.mem {w : World} {nb mb sb cb : Nat} {N M : Array Value} {ms : List Mem} {ks : List (ByteArray × Int)} (h : Hood w nb mb sb cb N M ms ks) {k : Nat} (hk : k < ms.length) :
    w.cell? ⟨mb, k * 4, none⟩ = some (.string (ms.getD k mem0).nm) ∧ w.cell? ⟨mb, k * 4 + 1, none⟩ = some (.int .u64 (ms.getD k mem0).inc) ∧ w.cell? ⟨mb, k * 4 + 1 + 1, none⟩ = some (.string (ms.getD k mem0).ad) ∧ w.cell? ⟨mb, k * 4 + 1 + 1 + 1, none⟩ = some (.string (ms.getD k mem0).tk) :=
  OwnM.at (fun j u hu => by rw [h.hM.cell, ← Array.getElem?_toList, h.hMs]; exact hu) hk

set_option maxHeartbeats 1000000 in
theorem idx_any (nb mb sb cb : Nat) (N M : Array Value) (ms : List Mem) (ks : List (ByteArray × Int)) (w : World) (hH : Hood w nb mb sb cb N M ms ks) (hl : ms.length ≤ 1000) (h39 : N[39]? = some (.map (some sb))) :
    Calls Yba.prog 50 #[.slice (some ⟨mb, 0, none⟩) ms.length ms.length, .func (Fn.func 69) #[] #[.pointer (some ⟨cb, 0, none⟩)]] w fun e w' => (e = .returned (.int .i64 (-1)) ∨ ∃ k : Nat, k < ms.length ∧ e = .returned (.int .i64 k)) ∧ Kept (fun _ => True) w w' := by
  go_enter Yba.func50, Yba.ntmps50
  go_wp2
  have HH := Shy.mk hH
  clear hH
  go_loopw [8] (fun i wr => ∃ k : Nat, k ≤ ms.length ∧ i = .int .i64 k ∧ Shy (Kept (fun _ => True) w wr)) (fun i _ => ms.length - (intOf i).toNat)
  case atStart => exact ⟨0, Nat.zero_le _, rfl, ⟨Kept.refl _ _⟩⟩
  case round =>
    obtain ⟨k, hk, rfl, hinv⟩ := hrel
    by_cases hlt : k < ms.length
    · have H1 := HH.out.kept hinv.out
      obtain ⟨e0, e1, e2, e3⟩ := H1.mem hlt
      obtain ⟨m, hm⟩ : ∃ m, ms.getD k mem0 = m := ⟨_, rfl⟩
      rw [hm] at e0 e1 e2 e3
      have HC := Shy.mk (clo69 nb sb cb N ks m.nm m.ad m.tk m.inc wr H1.hN H1.hC h39 H1.hmp)
      clear H1 hm
      cases hb : hasK ks (m.nm, m.inc) with
      | true =>
        go_wp2_with (go_at_call 69; refine HC.out.mono ?_; rintro e w1 ⟨rfl, hk1⟩; have HK1 := Shy.mk (hinv.out.trans hk1); clear hk1)
        go_roundw
        case rel => exact ⟨k + 1, by omega, by go_num, HK1⟩
        case measure => simp [intOf]; omega
      | false =>
        go_wp2_with (go_at_call 69; refine HC.out.mono ?_; rintro e w1 ⟨rfl, hk1⟩; have HK1 := Shy.mk (hinv.out.trans hk1); clear hk1)
        go_ret
        exact ⟨.inr ⟨k, hlt, rfl⟩, HK1.out⟩
    · go_wp2
      go_ret
      exact ⟨.inl rfl, hinv.out⟩

theorem ret4 {w w1 : World} {R : Nat} {x0 x1 x2 x3 : Value} (bz : Blk w1 R 35 #[x0, x1, x2, x3]) (KW : Kept (fun _ => True) w w1) (hR : w.heap.size ≤ R) (a b c d : Value) :
    Blk ((((w1.setCell ⟨R, 0, none⟩ a).setCell ⟨R, 1, none⟩ b).setCell ⟨R, 2, none⟩ c).setCell ⟨R, 3, none⟩ d) R 35 #[a, b, c, d] ∧ Kept (fun _ => True) w ((((w1.setCell ⟨R, 0, none⟩ a).setCell ⟨R, 1, none⟩ b).setCell ⟨R, 2, none⟩ c).setCell ⟨R, 3, none⟩ d) :=
  ⟨(((bz.set 0 a).set 1 b).set 2 c).set 3 d, (((KW.setNew (q := ⟨R, 0, none⟩) hR _).setNew (q := ⟨R, 1, none⟩) hR _).setNew (q := ⟨R, 2, none⟩) hR _).setNew (q := ⟨R, 3, none⟩) hR _⟩

set_option maxHeartbeats 1000000 in
theorem leader_any (nb mb sb : Nat) (N M : Array Value) (ms : List Mem) (ks : List (ByteArray × Int)) (w : World) (hN : Blk w nb 72 N) (hM : Blk w mb 35 M) (hMs : M.toList = memCells ms) (hl : ms.length ≤ 1000)
    (h17 : N[17]? = some (.slice (some ⟨mb, 0, none⟩) ms.length ms.length)) (h39 : N[39]? = some (.map (some sb))) (hmp : Mp w sb ks) :
    Calls Yba.prog 61 #[.pointer (some ⟨nb, 0, none⟩)] w fun e w' => ∃ a b c d, e = .returned (.agg #[.string a, .int .u64 b, .string c, .string d]) ∧ Kept (fun _ => True) w w' := by
  have c17 : w.cell? ⟨nb, 17, none⟩ = some (.slice (some ⟨mb, 0, none⟩) ms.length ms.length) := (hN.cell 17).trans h17
  have ltn := hN.lt
  have HC := Shy.mk (idx_any nb mb sb w.heap.size N M ms ks ((w.alloc (.cells #[.pointer (some ⟨nb, 0, none⟩)] 52)).alloc (.cells #[.string ⟨#[]⟩, .int .u64 0, .string ⟨#[]⟩, .string ⟨#[]⟩] 35)) ⟨(hN.alloc _).alloc _, (hM.alloc _).alloc _, hMs, (Blk.new w 52 _).alloc _, hmp.kept (((Kept.refl (fun _ => True) w).alloc _).alloc _) trivial⟩ hl h39)
  have HZ : Shy (Blk ((w.alloc (.cells #[.pointer (some ⟨nb, 0, none⟩)] 52)).alloc (.cells #[.string ⟨#[]⟩, .int .u64 0, .string ⟨#[]⟩, .string ⟨#[]⟩] 35)) (w.heap.size + 1) 35 #[.string ⟨#[]⟩, .int .u64 0, .string ⟨#[]⟩, .string ⟨#[]⟩] ∧ Blk ((w.alloc (.cells #[.pointer (some ⟨nb, 0, none⟩)] 52)).alloc (.cells #[.string ⟨#[]⟩, .int .u64 0, .string ⟨#[]⟩, .string ⟨#[]⟩] 35)) w.heap.size 52 #[.pointer (some ⟨nb, 0, none⟩)]) :=
    ⟨by have := Blk.new (w.alloc (.cells #[.pointer (some ⟨nb, 0, none⟩)] 52)) 35 #[.string ⟨#[]⟩, .int .u64 0, .string ⟨#[]⟩, .string ⟨#[]⟩]; simpa using this, (Blk.new w 52 _).alloc _⟩
  have HN := Shy.mk (And.intro hN (And.intro hM hMs))
  clear hN hM hmp hMs
  go_enter Yba.func61, Yba.ntmps61
  go_upto_region 2 with (go_at_call 50; refine HC.out.mono ?_; rintro e w1 ⟨hr, hk1⟩; have HK1 := Shy.mk hk1; clear hk1; rcases hr with rfl | ⟨k, hk, rfl⟩)
  · have KW : Kept (fun _ => True) w w1 := (((Kept.refl (fun _ => True) w).alloc _).alloc _).trans HK1.out
    have bz := HZ.out.1.kept HK1.out trivial
    have z0 : w1.cell? ⟨w.heap.size + 1, 0, none⟩ = some (.string ⟨#[]⟩) := bz.cell 0
    have z1 : w1.cell? ⟨w.heap.size + 1, 1, none⟩ = some (.int .u64 0) := bz.cell 1
    have z2 : w1.cell? ⟨w.heap.size + 1, 1 + 1, none⟩ = some (.string ⟨#[]⟩) := bz.cell 2
    have z3 : w1.cell? ⟨w.heap.size + 1, 1 + 1 + 1, none⟩ = some (.string ⟨#[]⟩) := bz.cell 3
    have f0 := bz.frozen 0
    have f1 := bz.frozen 1
    have f2 := bz.frozen 2
    have f3 := bz.frozen 3
    have HZ1 := Shy.mk (And.intro bz KW)
    clear bz KW
    go_wp2
    have HF := ret4 HZ1.out.1 HZ1.out.2 (by omega) (.string ⟨#[]⟩) (.int .u64 0) (.string ⟨#[]⟩) (.string ⟨#[]⟩)
    (try simp only [Exit.inBlock, Exit.then])
    refine bodyPost_ret (results_cell_row rfl _ _ (w.heap.size + 1) 35 _ _ _ rfl HF.1 Yba.underlying35 rfl (by kernel_rfl)) rfl ?_
    exact ⟨_, _, _, _, rfl, HF.2⟩
  · have KW : Kept (fun _ => True) w w1 := (((Kept.refl (fun _ => True) w).alloc _).alloc _).trans HK1.out
    have bz := HZ.out.1.kept HK1.out trivial
    have z0 : w1.cell? ⟨w.heap.size + 1, 0, none⟩ = some (.string ⟨#[]⟩) := bz.cell 0
    have z1 : w1.cell? ⟨w.heap.size + 1, 1, none⟩ = some (.int .u64 0) := bz.cell 1
    have z2 : w1.cell? ⟨w.heap.size + 1, 1 + 1, none⟩ = some (.string ⟨#[]⟩) := bz.cell 2
    have z3 : w1.cell? ⟨w.heap.size + 1, 1 + 1 + 1, none⟩ = some (.string ⟨#[]⟩) := bz.cell 3
    have f0 := bz.frozen 0
    have f1 := bz.frozen 1
    have f2 := bz.frozen 2
    have f3 := bz.frozen 3
    have p0 : w1.cell? ⟨w.heap.size, 0, none⟩ = some (.pointer (some ⟨nb, 0, none⟩)) := (HZ.out.2.kept HK1.out trivial).cell 0
    have p17 : w1.cell? ⟨nb, 17, none⟩ = some (.slice (some ⟨mb, 0, none⟩) ms.length ms.length) := ((HN.out.1.kept KW trivial).cell 17).trans h17
    have hM1 := HN.out.2.1.kept KW trivial
    obtain ⟨e0, e1, e2, e3⟩ := OwnM.at (w := w1) (b := mb) (l := ms) (fun j u hu => by rw [hM1.cell, ← Array.getElem?_toList, HN.out.2.2]; exact hu) hk
    obtain ⟨m, hm⟩ : ∃ m, ms.getD k mem0 = m := ⟨_, rfl⟩
    rw [hm] at e0 e1 e2 e3
    clear hm
    have HZ1 := Shy.mk (And.intro bz KW)
    have hk0 : ¬ ((k : Int) < 0) := by omega
    clear bz KW hM1
    go_wp2
    have HF := ret4 HZ1.out.1 HZ1.out.2 (by omega) (.string m.nm) (.int .u64 m.inc) (.string m.ad) (.string m.tk)
    (try simp only [Exit.inBlock, Exit.then])
    refine bodyPost_ret (results_cell_row rfl _ _ (w.heap.size + 1) 35 _ _ _ rfl HF.1 Yba.underlying35 rfl (by kernel_rfl)) rfl ?_
    exact ⟨⟨m.nm, m.inc, m.ad, m.tk, rfl⟩, HF.2⟩
end Go.Proofs.Ybulkcdnw
