/-
  (*Node).send.
-/
import Derived.Test.YbulkcdnwA5
import Derived.Test.YbulkcdnwSend
import Derived.Deep.CutBlock
namespace Go.Proofs.Ybulkcdnw
open Go.RowKit
set_option maxRecDepth 100000
set_option linter.unusedSimpArgs false
set_option linter.unusedVariables false

set_option maxHeartbeats 1000000 in
theorem told_any (nb : Nat) (N : Array Value) (a t : ByteArray) (b u : Int) (f : Bool) (w : World) (hN : Blk w nb 72 N) (h50 : N[50]? = some (.string t)) (h51 : N[51]? = some (.int .u64 u)) (h52 : N[52]? = some (.bool f)) :
    Calls Yba.prog 62 #[.pointer (some ⟨nb, 0, none⟩), .agg #[.string a, .int .u64 b]] w fun e w' => (∃ r, e = .returned (.bool r)) ∧ Kept (fun _ => True) w w' := by
  have c50 : w.cell? ⟨nb, 50, none⟩ = some (.string t) := (hN.cell 50).trans h50
  have c51 : w.cell? ⟨nb, 51, none⟩ = some (.int .u64 u) := (hN.cell 51).trans h51
  have c52 : w.cell? ⟨nb, 52, none⟩ = some (.bool f) := (hN.cell 52).trans h52
  have ltn := hN.lt
  clear hN
  have hq := run_eql33
  by_cases h1 : t.toList = a.toList
  · by_cases h2 : u = b
    · go_enter Yba.func62, Yba.ntmps62
      go_wp2
      go_quiet (fail)
      go_wp2
      go_ret
      exact ⟨⟨_, rfl⟩, ((Kept.refl _ _).alloc _).drewN _⟩
    · go_enter Yba.func62, Yba.ntmps62
      go_wp2
      go_quiet (fail)
      go_wp2
      go_ret
      exact ⟨⟨_, rfl⟩, ((Kept.refl _ _).alloc _).drewN _⟩
  · go_enter Yba.func62, Yba.ntmps62
    go_wp2
    go_quiet (fail)
    go_wp2
    go_ret
    exact ⟨⟨_, rfl⟩, ((Kept.refl _ _).alloc _).drewN _⟩

/-- What stays of a node while it sends. -/
structure NodeOk (w : World) (nb mb sb : Nat) (N M : Array Value) (ms : List Mem) (ks : List (ByteArray × Int)) : Prop where
  hN : Blk w nb 72 N
  hM : Blk w mb 35 M
  hMs : M.toList = memCells ms
  hmp : Mp w sb ks
theorem Blk.ne {w : World} {a b : Nat} {t u : TypeId} {A B : Array Value} (ha : Blk w a t A) (hb : Blk w b u B) (h : t ≠ u) : a ≠ b := by
  rintro rfl
  have := (show w.heap[a]? = _ from ha).symm.trans (show w.heap[a]? = _ from hb)
  simp at this
  exact h this.2
theorem Mp.ne {w : World} {a b : Nat} {t : TypeId} {A : Array Value} {ks : List (ByteArray × Int)} (ha : Mp w a ks) (hb : Blk w b t A) : a ≠ b := by
  rintro rfl
  have := (show w.heap[a]? = _ from ha).symm.trans (show w.heap[a]? = _ from hb)
  simp at this

/-- The message under way, the node behind the choice of what it says it told. -/
structure Td (w wx : World) (nb mb sb MB base n : Nat) (N M : Array Value) (ms : List Mem) (ks : List (ByteArray × Int)) (sv : Value) (xs : List Value) (A : Value → Array Value) : Prop where
  ex : ∃ told N1, told.oneCell' = true ∧ Blk wx MB 81 (A told) ∧ NodeOk wx nb mb sb N1 M ms ks ∧ (∀ j, j ≠ 50 → j ≠ 51 → N1[j]? = N[j]?) ∧ (∃ t, N1[50]? = some (.string t)) ∧ (∃ u, N1[51]? = some (.int .u64 u)) ∧
    wx.ownsRow base 83 19 sv n xs ∧ Kept (fun k => k ≠ nb) w wx

/-- Behind send: the node, the queue. -/
structure Sent (w w' : World) (nb mb sb base : Nat) (N M : Array Value) (ms : List Mem) (ks : List (ByteArray × Int)) (sus : Value) (n : Nat) (xs : List Value) : Prop where
  ex : ∃ (N1 : Array Value) (sv' : Value), NodeOk w' nb mb sb (N1.setIfInBounds 61 sv') M ms ks ∧ (∀ j, j ≠ 50 → j ≠ 51 → N1[j]? = N[j]?) ∧ (∃ t, N1[50]? = some (.string t)) ∧ (∃ u, N1[51]? = some (.int .u64 u)) ∧ OwnI w' sus (susL ks ms) ∧
        w'.ownsRow base 83 19 sv' n xs
  kept : Kept (fun k => k < base ∨ (k ≠ nb ∧ ∀ c, w.heap[k]? ≠ some (.cells c 83 (0, 0)))) w w'

theorem NodeOk.kept {w w' : World} {p : Nat → Prop} {nb mb sb : Nat} {N M : Array Value} {ms : List Mem} {ks : List (ByteArray × Int)} (h : NodeOk w nb mb sb N M ms ks) (k : Kept p w w') (h1 : p nb) (h2 : p mb) (h3 : p sb) : NodeOk w' nb mb sb N M ms ks :=
  ⟨h.hN.kept k h1, h.hM.kept k h2, h.hMs, h.hmp.kept k h3⟩
theorem send1 {w w1 : World} {nb mb sb : Nat} {N M A : Array Value} {ms : List Mem} {ks : List (ByteArray × Int)} {v : Value} {l : List (ByteArray × Int)} (hH : NodeOk w nb mb sb N M ms ks) (hv : OwnI w1 v l) (hk : Kept (fun _ => True) w w1) (hb : Blk w1 w.heap.size 81 A) :
    OwnI (w1.setCell ⟨w.heap.size, 4, none⟩ v) v l ∧ Kept (fun _ => True) w (w1.setCell ⟨w.heap.size, 4, none⟩ v) ∧ Blk (w1.setCell ⟨w.heap.size, 4, none⟩ v) w.heap.size 81 (A.setIfInBounds 4 v) ∧ NodeOk (w1.setCell ⟨w.heap.size, 4, none⟩ v) nb mb sb N M ms ks := by
  have K : Kept (fun _ => True) w (w1.setCell ⟨w.heap.size, 4, none⟩ v) := hk.setNew (q := ⟨w.heap.size, 4, none⟩) (Nat.le_refl _) _
  exact ⟨ownsRow_setCell_other hv (own_apart hv hb (by decide)) _, K, hb.set 4 v, hH.kept K trivial trivial trivial⟩
theorem send2 {w W2 w3 : World} {nb mb sb : Nat} {N M A : Array Value} {ms : List Mem} {ks : List (ByteArray × Int)} {v : Value} {l : List (ByteArray × Int)} (h : OwnI W2 v l ∧ Kept (fun _ => True) w W2 ∧ Blk W2 w.heap.size 81 A ∧ NodeOk W2 nb mb sb N M ms ks) (hk : Kept (fun _ => True) W2 w3) (o : Obj) :
    OwnI (w3.alloc o) v l ∧ Kept (fun _ => True) w (w3.alloc o) ∧ Blk (w3.alloc o) w.heap.size 81 A ∧ NodeOk (w3.alloc o) nb mb sb N M ms ks := by
  have K := hk.alloc o
  exact ⟨h.1.kept K, h.2.1.trans K, h.2.2.1.kept K trivial, h.2.2.2.kept K trivial trivial trivial⟩

theorem send3 {w W4 w5 : World} {nb mb sb : Nat} {N M A : Array Value} {ms : List Mem} {ks : List (ByteArray × Int)} {v : Value} {l : List (ByteArray × Int)} (h : OwnI W4 v l ∧ Kept (fun _ => True) w W4 ∧ Blk W4 w.heap.size 81 A ∧ NodeOk W4 nb mb sb N M ms ks) (K : Kept (fun _ => True) W4 w5) :
    OwnI w5 v l ∧ Kept (fun _ => True) w w5 ∧ Blk w5 w.heap.size 81 A ∧ NodeOk w5 nb mb sb N M ms ks :=
  ⟨h.1.kept K, h.2.1.trans K, h.2.2.1.kept K trivial, h.2.2.2.kept K trivial trivial trivial⟩

section
variable {w X : World} {nb mb sb base n : Nat} {N M : Array Value} {ms : List Mem} {ks : List (ByteArray × Int)} {v sv m5 : Value} {xs : List Value} {A : Value → Array Value} {t : ByteArray} {u : Int}
theorem tdA (ho : w.ownsRow base 83 19 sv n xs) (hm : m5.oneCell' = true) (h50 : N[50]? = some (.string t)) (h51 : N[51]? = some (.int .u64 u))
    (h : OwnI X v (susL ks ms) ∧ Kept (fun _ => True) w X ∧ Blk X w.heap.size 81 (A m5) ∧ NodeOk X nb mb sb N M ms ks) : OwnI X v (susL ks ms) ∧ Td w X nb mb sb w.heap.size base n N M ms ks sv xs A :=
  ⟨h.1, ⟨m5, N, hm, h.2.2.1, h.2.2.2, fun _ _ _ => rfl, ⟨_, h50⟩, ⟨_, h51⟩, own_kept ho h.2.1 (fun _ _ _ _ => trivial), h.2.1.mono fun _ _ _ => trivial⟩⟩
theorem tdC (ho : w.ownsRow base 83 19 sv n xs) (h50 : N[50]? = some (.string t)) (h51 : N[51]? = some (.int .u64 u))
    (h : OwnI X v (susL ks ms) ∧ Kept (fun _ => True) w X ∧ Blk X w.heap.size 81 (A m5) ∧ NodeOk X nb mb sb N M ms ks) (q : Option Addr) (hA : ∀ y, (A m5).setIfInBounds 5 y = A y) :
    OwnI (X.setCell ⟨w.heap.size, 5, none⟩ (.pointer q)) v (susL ks ms) ∧ Td w (X.setCell ⟨w.heap.size, 5, none⟩ (.pointer q)) nb mb sb w.heap.size base n N M ms ks sv xs A := by
  obtain ⟨h1, h2, h3, h4⟩ := h
  have K : Kept (fun k => k ≠ w.heap.size) X (X.setCell ⟨w.heap.size, 5, none⟩ (.pointer q)) := (Kept.refl _ X).setCell (q := ⟨w.heap.size, 5, none⟩) (by simp) _
  have KW : Kept (fun _ => True) w (X.setCell ⟨w.heap.size, 5, none⟩ (.pointer q)) := h2.setNew (q := ⟨w.heap.size, 5, none⟩) (Nat.le_refl _) _
  refine ⟨ownsRow_setCell_other h1 (own_apart h1 h3 (by decide)) _, ⟨.pointer q, N, rfl, ?_, h4.kept K (h4.hN.ne h3 (by decide)) (h4.hM.ne h3 (by decide)) (h4.hmp.ne h3), fun _ _ _ => rfl, ⟨_, h50⟩, ⟨_, h51⟩, own_kept ho KW (fun _ _ _ _ => trivial), KW.mono fun _ _ _ => trivial⟩⟩
  rw [← hA]
  exact h3.set 5 _
theorem tdB (ho : w.ownsRow base 83 19 sv n xs) (hm : m5.oneCell' = true) (h50 : N[50]? = some (.string t)) (h51 : N[51]? = some (.int .u64 u))
    (h : OwnI X v (susL ks ms) ∧ Kept (fun _ => True) w X ∧ Blk X w.heap.size 81 (A m5) ∧ NodeOk X nb mb sb N M ms ks) (a : ByteArray) (b : Int) :
    OwnI ((X.setCell ⟨nb, 50, none⟩ (.string a)).setCell ⟨nb, 51, none⟩ (.int .u64 b)) v (susL ks ms) ∧ Td w ((X.setCell ⟨nb, 50, none⟩ (.string a)).setCell ⟨nb, 51, none⟩ (.int .u64 b)) nb mb sb w.heap.size base n N M ms ks sv xs A := by
  obtain ⟨h1, h2, h3, h4⟩ := h
  have K : Kept (fun k => k ≠ nb) X ((X.setCell ⟨nb, 50, none⟩ (.string a)).setCell ⟨nb, 51, none⟩ (.int .u64 b)) := ((Kept.refl _ X).setCell (q := ⟨nb, 50, none⟩) (by simp) _).setCell (q := ⟨nb, 51, none⟩) (by simp) _
  have KW : Kept (fun k => k ≠ nb) w ((X.setCell ⟨nb, 50, none⟩ (.string a)).setCell ⟨nb, 51, none⟩ (.int .u64 b)) := (h2.mono fun _ _ _ => trivial).trans K
  have hlt50 := (Array.getElem?_eq_some_iff.1 h50).1
  have hlt51 := (Array.getElem?_eq_some_iff.1 h51).1
  have hX := own_kept ho h2 (fun _ _ _ _ => trivial)
  refine ⟨?_, ⟨m5, (N.setIfInBounds 50 (.string a)).setIfInBounds 51 (.int .u64 b), hm, h3.kept K (h3.ne h4.hN (by decide)), ⟨(h4.hN.set 50 _).set 51 _, h4.hM.kept K (h4.hM.ne h4.hN (by decide)), h4.hMs, h4.hmp.kept K (h4.hmp.ne h4.hN)⟩, ?_, ⟨a, ?_⟩, ⟨b, ?_⟩, ?_, KW⟩⟩
  · exact own_kept h1 K (fun k c _ hc => Blk.ne (show Blk X k 33 c from hc) h4.hN (by decide))
  · intro j e1 e2
    rw [Array.getElem?_setIfInBounds, if_neg (by omega), Array.getElem?_setIfInBounds, if_neg (by omega)]
  · rw [Array.getElem?_setIfInBounds, if_neg (by omega), Array.getElem?_setIfInBounds, if_pos rfl, if_pos hlt50]
  · rw [Array.getElem?_setIfInBounds, if_pos rfl, if_pos (by simpa using hlt51)]
  · exact own_kept hX K (fun k c _ hc => Blk.ne (show Blk X k 83 c from hc) h4.hN (by decide))
end

theorem send_end {w w5 w6 : World} {nb mb sb base n : Nat} {N N1 M : Array Value} {ms : List Mem} {ks : List (ByteArray × Int)} {v sv' : Value} {xs : List Value} {t : ByteArray} {u : Int} (hv : OwnI w5 v (susL ks ms)) (nk : NodeOk w5 nb mb sb N1 M ms ks) (hj : ∀ j, j ≠ 50 → j ≠ 51 → N1[j]? = N[j]?) (kp : Kept (fun k => k ≠ nb) w w5)
    (e50 : N1[50]? = some (.string t)) (e51 : N1[51]? = some (.int .u64 u)) (hbase : base ≤ nb) (b6 : Blk w6 nb 72 (N1.setIfInBounds 61 sv')) (o6 : w6.ownsRow base 83 19 sv' n xs) (k6 : Kept (fun k => k < base ∨ (k ≠ nb ∧ ∀ c, w5.heap[k]? ≠ some (.cells c 83 (0, 0)))) w5 w6) :
    Sent w w6 nb mb sb base N M ms ks v n xs := by
  have P : ∀ {k t c}, Blk w5 k t c → t ≠ 72 → t ≠ 83 → k < base ∨ (k ≠ nb ∧ ∀ c, w5.heap[k]? ≠ some (.cells c 83 (0, 0))) := fun {k t c} hb h1 h2 =>
    Or.inr ⟨hb.ne nk.hN h1, fun c' hc => by
      have := (show w5.heap[k]? = _ from hb).symm.trans hc
      simp at this
      exact h2 this.2⟩
  refine ⟨⟨N1, sv', ⟨b6, nk.hM.kept k6 (P nk.hM (by decide) (by decide)), nk.hMs, nk.hmp.kept k6 (Or.inr ⟨nk.hmp.ne nk.hN, fun c hc => ?_⟩)⟩, hj, ⟨_, e50⟩, ⟨_, e51⟩, own_kept hv k6 (fun k c _ hc => P (show Blk w5 k 33 c from hc) (by decide) (by decide)), o6⟩, ?_⟩
  · have := (show w5.heap[sb]? = _ from nk.hmp).symm.trans hc
    simp at this
  · refine ⟨k6.os.trans kp.os, k6.tape.trans kp.tape, k6.output.trans kp.output, Nat.le_trans kp.size k6.size, fun k hk hp => ?_⟩
    have hne : k ≠ nb := by rcases hp with h | h <;> omega
    have e := kp.block k hk hne
    rw [k6.block k (Nat.lt_of_lt_of_le hk kp.size) (by
      rcases hp with h | ⟨_, h⟩
      · exact Or.inl h
      · exact Or.inr ⟨hne, fun c hc => h c (by rw [← e]; exact hc)⟩)]
    exact e

set_option maxHeartbeats 2000000 in
theorem send_any (base nb mb sb n : Nat) (N M : Array Value) (ms : List Mem) (ks : List (ByteArray × Int)) (nm ad st gr tgt t : ByteArray) (inc u : Int) (f : Bool) (sv : Value) (xs : List Value)
    (m0 m1 m2 m3 m4 m5 m6 m7 m8 m9 m10 m11 m12 m13 m14 m15 m16 m17 : Value) (w : World)
    (hH : NodeOk w nb mb sb N M ms ks) (hbase : base ≤ nb) (hl : ms.length ≤ 1000)
    (h0 : N[0]? = some (.string nm)) (h1 : N[1]? = some (.int .u64 inc)) (h2 : N[2]? = some (.string ad)) (h4 : N[4]? = some (.string st)) (h20 : N[20]? = some (.string gr)) (h61 : N[61]? = some sv)
    (h17 : N[17]? = some (.slice (some ⟨mb, 0, none⟩) ms.length ms.length)) (h39 : N[39]? = some (.map (some sb))) (h50 : N[50]? = some (.string t)) (h51 : N[51]? = some (.int .u64 u)) (h52 : N[52]? = some (.bool f))
    (hown : w.ownsRow base 83 19 sv n xs) (hn : n ≤ 100000)
    (hm : ∀ u ∈ [m0, m6, m7, m8, m9, m10, m11, m12, m13, m14, m15, m17], u.oneCell' = true) (hm5 : m5.oneCell' = true) (hm4 : m4.oneCell' = true)
    (hst : (st.toList == [106, 111, 105, 110, 105, 110, 103]) = false) :
    Calls Yba.prog 52 #[.pointer (some ⟨nb, 0, none⟩), .string tgt, .agg #[m0, m1, m2, m3, m4, m5, m6, m7, m8, m9, m10, m11, m12, m13, m14, m15, m16, m17]] w fun e w' => e = .returned (.tuple #[]) ∧
      ∃ sus told, told.oneCell' = true ∧ Sent w w' nb mb sb base N M ms ks sus (n + 1) (xs ++ [.string tgt, m0, .string nm, .int .u64 inc, .string ad, sus, told, m6, m7, m8, m9, m10, m11, m12, m13, m14, m15, .string gr, m17]) := by
  have HH := Shy.mk hH
  have hq := run_eql33
  have hMB := Blk.new w 81 #[m0, m1, m2, m3, m4, m5, m6, m7, m8, m9, m10, m11, m12, m13, m14, m15, m16, m17]
  have K0 : Kept (fun _ => True) w (w.alloc (.cells #[m0, m1, m2, m3, m4, m5, m6, m7, m8, m9, m10, m11, m12, m13, m14, m15, m16, m17] 81)) := (Kept.refl _ w).alloc _
  have HC36 := Shy.mk (susp_any nb mb sb N M ms ks _ (hH.hN.kept K0 trivial) (hH.hM.kept K0 trivial) hH.hMs hl h17 h39 (hH.hmp.kept K0 trivial))
  have HM := Shy.mk (And.intro hMB K0)
  have HO := Shy.mk (And.intro hown (And.intro hm (And.intro hm5 hm4)))
  have ltn := hH.hN.lt
  have ltm := hH.hM.lt
  have lts := hH.hmp.lt
  clear hMB K0 hown hm hm5 hm4 hH
  go_enter Yba.func52, Yba.ntmps52
  go_upto_region 2 with (go_at_call 36; refine HC36.out.mono ?_; rintro e w1 ⟨v, rfl, hv, hk1⟩; obtain ⟨ao, cp, rfl, _⟩ := own_shape hv; have b1 := HM.out.1.kept hk1 trivial; have z4 : w1.cell? ⟨w.heap.size, 4, none⟩ = some m4 := b1.cell 4; have f4 := b1.frozen 4; have H1 := Shy.mk (And.intro hv (And.intro (HM.out.2.trans hk1) b1)); clear hv hk1 b1)
  have H2 := Shy.mk (send1 HH.out H1.out.1 H1.out.2.1 H1.out.2.2)
  clear z4 f4 H1 HM HC36
  generalize w1.setCell ⟨w.heap.size, 4, none⟩ (.slice ao (susL ks ms).length cp) = W2 at H2 ⊢
  have HC61 := Shy.mk (leader_any nb mb sb N M ms ks W2 H2.out.2.2.2.hN H2.out.2.2.2.hM H2.out.2.2.2.hMs hl h17 h39 H2.out.2.2.2.hmp)
  go_upto_block 0 with (go_at_call 61; refine HC61.out.mono ?_; rintro e w3 ⟨a, b, c, d, rfl, hk3⟩; have H3 := Shy.mk hk3; clear hk3)
  have H4 := Shy.mk (send2 H2.out H3.out (.cells #[.string a, .int .u64 b, .string c, .string d] 35))
  have HB : Shy (Blk (w3.alloc (.cells #[.string a, .int .u64 b, .string c, .string d] 35)) w3.heap.size 35 #[.string a, .int .u64 b, .string c, .string d] ∧ w.heap.size < w3.heap.size) := ⟨Blk.new _ _ _, by have h1 := H2.out.2.2.1.lt; have h2 := H3.out.size; omega⟩
  clear HC61 H3 H2
  generalize w3.alloc (.cells #[.string a, .int .u64 b, .string c, .string d] 35) = W4 at H4 HB ⊢
  generalize w3.heap.size = LB at HB ⊢
  have y0 : W4.cell? ⟨LB, 0, none⟩ = some (.string a) := HB.out.1.cell 0
  have y1 : W4.cell? ⟨LB, 1, none⟩ = some (.int .u64 b) := HB.out.1.cell 1
  have y2 : W4.cell? ⟨LB, 2, none⟩ = some (.string c) := HB.out.1.cell 2
  go_cut [] from 12 to 39 (fun wx => Shy (OwnI wx (.slice ao (susL ks ms).length cp) (susL ks ms) ∧ Td w wx nb mb sb w.heap.size base n N M ms ks sv xs (fun told => #[m0, m1, m2, m3, .slice ao (susL ks ms).length cp, told, m6, m7, m8, m9, m10, m11, m12, m13, m14, m15, m16, m17])))
  case first =>
    have x50 : W4.cell? ⟨nb, 50, none⟩ = some (.string t) := (H4.out.2.2.2.hN.cell 50).trans h50
    have x51 : W4.cell? ⟨nb, 51, none⟩ = some (.int .u64 u) := (H4.out.2.2.2.hN.cell 51).trans h51
    have f50 := H4.out.2.2.2.hN.frozen 50
    have f51 := H4.out.2.2.2.hN.frozen 51
    have z4 : W4.cell? ⟨w.heap.size, 4, none⟩ = some (.slice ao (susL ks ms).length cp) := H4.out.2.2.1.cell 4
    have HT := Shy.mk (told_any nb N a t b u f W4 H4.out.2.2.2.hN h50 h51 h52)
    go_wp2_with (go_at_call 62; refine HT.out.mono ?_; rintro e w5 ⟨⟨r, rfl⟩, hk5⟩; have H5 := Shy.mk (send3 H4.out hk5); have z5 : w5.cell? ⟨w.heap.size, 5, none⟩ = some m5 := H5.out.2.2.1.cell 5; have f5 := H5.out.2.2.1.frozen 5; have y0' : w5.cell? ⟨LB, 0, none⟩ = some (.string a) := (HB.out.1.kept hk5 trivial).cell 0; clear hk5)
    all_goals go_meet
    all_goals first
      | exact ⟨tdA HO.out.1 HO.out.2.2.1 h50 h51 H5.out⟩
      | exact ⟨tdC (m5 := m5) HO.out.1 h50 h51 H5.out _ (fun _ => rfl)⟩
      | exact ⟨tdA HO.out.1 HO.out.2.2.1 h50 h51 H4.out⟩
      | exact ⟨tdB HO.out.1 HO.out.2.2.1 h50 h51 H4.out _ _⟩
  case rest =>
    obtain ⟨hv, ⟨told, N1, ht, bM, nk, hj, ⟨t1, e50⟩, ⟨u1, e51⟩, ow, kp⟩⟩ := hcut.out
    obtain ⟨w5, hw5⟩ : ∃ w5, w5 = wc := ⟨_, rfl⟩
    subst hw5
    have HC := Shy.mk (sendBare_in base nb n N1 nm ad st gr tgt inc sv xs m0 m1 m2 m3 (.slice ao (susL ks ms).length cp) told m6 m7 m8 m9 m10 m11 m12 m13 m14 m15 m16 m17 w5 nk.hN hbase
      ((hj 0 (by decide) (by decide)).trans h0) ((hj 1 (by decide) (by decide)).trans h1) ((hj 2 (by decide) (by decide)).trans h2) ((hj 4 (by decide) (by decide)).trans h4) ((hj 20 (by decide) (by decide)).trans h20) ((hj 61 (by decide) (by decide)).trans h61) ow hn
      (fun x hx => by
        simp only [List.mem_cons, List.not_mem_nil, or_false] at hx
        have hmm := HO.out.2.1
        simp only [List.mem_cons, List.not_mem_nil, or_false] at hmm
        rcases hx with rfl | rfl | rfl | rfl | rfl | rfl | rfl | rfl | rfl | rfl | rfl | rfl | rfl | rfl
        all_goals first | rfl | exact ht | (apply hmm; simp)) hst)
    have HX := Shy.mk (And.intro hv (And.intro bM (And.intro nk (And.intro hj (And.intro kp (And.intro e50 (And.intro e51 ht)))))))
    clear hv bM nk hj kp e50 e51 ht ow hcut
    go_wp2_with (first | (refine wpList_load_row rfl 81 (.tmp 5) rfl w.heap.size rfl 81 _ _ _ HX.out.2.1 Yba.underlying81 rfl (by kernel_rfl) ?_) | (go_at_call 27; refine HC.out.mono ?_; rintro e w6 ⟨rfl, sv', b6, o6, k6⟩; have H6 := Shy.mk (And.intro b6 (And.intro o6 k6)); clear b6 o6 k6))
    go_end0
    exact ⟨rfl, _, told, HX.out.2.2.2.2.2.2.2, send_end HX.out.1 HX.out.2.2.1 HX.out.2.2.2.1 HX.out.2.2.2.2.1 HX.out.2.2.2.2.2.1 HX.out.2.2.2.2.2.2.1 hbase H6.out.1 H6.out.2.1 H6.out.2.2⟩
end Go.Proofs.Ybulkcdnw
