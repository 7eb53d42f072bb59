/-
  (*Node).sendTo.
-/
import Derived.Test.YbulkcdnwA6
namespace Go.Proofs.Ybulkcdnw
open Go.RowKit
set_option maxRecDepth 100000
set_option linter.unusedSimpArgs false
set_option linter.unusedVariables false

theorem Sent.before {w w0 w' : World} {nb mb sb base n : Nat} {N M : Array Value} {ms : List Mem} {ks : List (ByteArray × Int)} {sus : Value} {xs : List Value} (h : Sent w0 w' nb mb sb base N M ms ks sus n xs) (k : Kept (fun _ => True) w w0) : Sent w w' nb mb sb base N M ms ks sus n xs := by
  refine ⟨h.ex, h.kept.os.trans k.os, h.kept.tape.trans k.tape, h.kept.output.trans k.output, Nat.le_trans k.size h.kept.size, fun j hj hp => ?_⟩
  have e := k.block j hj trivial
  rw [h.kept.block j (Nat.lt_of_lt_of_le hj k.size) (by
    rcases hp with h | ⟨h1, h2⟩
    · exact Or.inl h
    · exact Or.inr ⟨h1, fun c hc => h2 c (by rw [← e]; exact hc)⟩)]
  exact e

set_option maxHeartbeats 2000000 in
theorem sendTo_any (base nb mb sb n : Nat) (N M : Array Value) (ms : List Mem) (ks : List (ByteArray × Int)) (nm ad st gr t : ByteArray) (inc u : Int) (f : Bool) (sv : Value) (xs : List Value) (m : Mem)
    (m0 m1 m2 m3 m4 m5 m6 m7 m8 m9 m10 m11 m12 m13 m14 m15 m16 m17 : Value) (w : World)
    (hH : NodeOk w nb mb sb N M ms ks) (hbase : base ≤ nb) (hl : ms.length ≤ 1000)
    (h0 : N[0]? = some (.string nm)) (h1 : N[1]? = some (.int .u64 inc)) (h2 : N[2]? = some (.string ad)) (h4 : N[4]? = some (.string st)) (h20 : N[20]? = some (.string gr)) (h61 : N[61]? = some sv)
    (h17 : N[17]? = some (.slice (some ⟨mb, 0, none⟩) ms.length ms.length)) (h39 : N[39]? = some (.map (some sb))) (h50 : N[50]? = some (.string t)) (h51 : N[51]? = some (.int .u64 u)) (h52 : N[52]? = some (.bool f))
    (hown : w.ownsRow base 83 19 sv n xs) (hn : n ≤ 100000)
    (hm : ∀ u ∈ [m0, m6, m7, m8, m9, m10, m11, m12, m13, m14, m15, m17], u.oneCell' = true) (hm5 : m5.oneCell' = true) (hm4 : m4.oneCell' = true)
    (hst : (st.toList == [106, 111, 105, 110, 105, 110, 103]) = false) (hns : hasK ks (m.nm, m.inc) = false) :
    Calls Yba.prog 41 #[.pointer (some ⟨nb, 0, none⟩), .agg #[.string m.nm, .int .u64 m.inc, .string m.ad, .string m.tk], .agg #[m0, m1, m2, m3, m4, m5, m6, m7, m8, m9, m10, m11, m12, m13, m14, m15, m16, m17]] w fun e w' => e = .returned (.tuple #[]) ∧
      ∃ sus told, told.oneCell' = true ∧ Sent w w' nb mb sb base N M ms ks sus (n + 1) (xs ++ [.string m.ad, m0, .string nm, .int .u64 inc, .string ad, sus, told, m6, m7, m8, m9, m10, m11, m12, m13, m14, m15, .string gr, m17]) := by
  have c39 : w.cell? ⟨nb, 39, none⟩ = some (.map (some sb)) := (hH.hN.cell 39).trans h39
  have ltn := hH.hN.lt
  have K0 : ∀ k, Kept (fun _ => True) w (((w.alloc (.cells #[.string m.nm, .int .u64 m.inc, .string m.ad, .string m.tk] 35)).alloc (.cells #[m0, m1, m2, m3, m4, m5, m6, m7, m8, m9, m10, m11, m12, m13, m14, m15, m16, m17] 81)).drewN k) := fun k => (((Kept.refl _ w).alloc _).alloc _).drewN k
  have hlk : ∀ k, (Instr.lookup 44 (.map (some sb)) (.agg #[.string m.nm, .int .u64 m.inc]) false).run Yba.prog (((w.alloc (.cells #[.string m.nm, .int .u64 m.inc, .string m.ad, .string m.tk] 35)).alloc (.cells #[m0, m1, m2, m3, m4, m5, m6, m7, m8, m9, m10, m11, m12, m13, m14, m15, m16, m17] 81)).drewN k) = .ok (.bool false) (((w.alloc (.cells #[.string m.nm, .int .u64 m.inc, .string m.ad, .string m.tk] 35)).alloc (.cells #[m0, m1, m2, m3, m4, m5, m6, m7, m8, m9, m10, m11, m12, m13, m14, m15, m16, m17] 81)).drewN k) := fun k => by
    rw [lk44 (hH.hmp.kept (K0 k) trivial), hns]
  have hB : ∀ k, Blk (((w.alloc (.cells #[.string m.nm, .int .u64 m.inc, .string m.ad, .string m.tk] 35)).alloc (.cells #[m0, m1, m2, m3, m4, m5, m6, m7, m8, m9, m10, m11, m12, m13, m14, m15, m16, m17] 81)).drewN k) (w.heap.size + 1) 81 #[m0, m1, m2, m3, m4, m5, m6, m7, m8, m9, m10, m11, m12, m13, m14, m15, m16, m17] := fun k => by
    have := Blk.new (w.alloc (.cells #[.string m.nm, .int .u64 m.inc, .string m.ad, .string m.tk] 35)) 81 #[m0, m1, m2, m3, m4, m5, m6, m7, m8, m9, m10, m11, m12, m13, m14, m15, m16, m17]
    simpa [Blk] using this
  have HC := Shy.mk (fun k => send_any base nb mb sb n N M ms ks nm ad st gr m.ad t inc u f sv xs m0 m1 m2 m3 m4 m5 m6 m7 m8 m9 m10 m11 m12 m13 m14 m15 m16 m17 _ (hH.kept (K0 k) trivial trivial trivial) hbase hl h0 h1 h2 h4 h20 h61 h17 h39 h50 h51 h52 (own_kept hown (K0 k) (fun _ _ _ _ => trivial)) hn hm hm5 hm4 hst)
  have HK := Shy.mk (And.intro K0 hB)
  clear hH hown hm hm5 hm4 K0 hB
  go_enter Yba.func41, Yba.ntmps41
  go_wp2
  go_quiet (fail)
  go_wp2_with (first | (refine wpList_load_row rfl 81 (.tmp 5) rfl (w.heap.size + 1) rfl 81 _ _ _ (HK.out.2 _) Yba.underlying81 rfl (by kernel_rfl) ?_) | (go_at_call 52; refine (HC.out _).mono ?_; rintro e w6 ⟨rfl, sus, told, ht, h6⟩; have H6 := Shy.mk (And.intro ht (h6.before (HK.out.1 _))); clear h6 ht))
  go_end0
  exact ⟨rfl, sus, told, H6.out.1, H6.out.2⟩
end Go.Proofs.Ybulkcdnw
