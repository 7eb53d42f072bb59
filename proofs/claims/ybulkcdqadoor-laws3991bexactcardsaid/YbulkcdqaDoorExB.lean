/-
  The walk of the law Exact: an input that is not nil.
-/
import Derived.Test.YbulkcdqaDoorExA
import Derived.Laws.Closers25b
namespace Go.Proofs.YbulkcdqaDoor
open Go.RowKit
set_option maxRecDepth 100000
set_option linter.unusedSimpArgs false
set_option linter.unusedVariables false
attribute [local go_sem] Ybad.eql22
theorem Ybad.info5x : (Ybad.prog.info? 5).map (fun i => (i.zero, i.size, i.bytes)) = some (some (.int .u8 0), 1, 1) := by kernel_rfl
theorem Ybad.size5 : (Ybad.prog.info? 5).map (·.size) = some 1 := by kernel_rfl

/-- The bytes as cells. -/
def cl (l : List Int) : List Value := l.map (Value.int .u8)
theorem cl_length (l : List Int) : (cl l).length = l.length := by simp [cl]
theorem cl_one (l : List Int) : ∀ u ∈ cl l, u.oneCell' = true := by
  intro u hu
  obtain ⟨z, _, rfl⟩ := List.mem_map.1 hu
  rfl
theorem cl_get {l : List Int} {j : Nat} {u : Value} (h : (cl l)[j]? = some u) : j < l.length ∧ u = .int .u8 (l.getD j 0) := by
  unfold cl at h
  rw [List.getElem?_map] at h
  obtain ⟨z, hz, rfl⟩ := Option.map_eq_some_iff.1 h
  obtain ⟨hlt, hj⟩ := List.getElem?_eq_some_iff.1 hz
  exact ⟨hlt, by simp [List.getD, hz]⟩

/-- Block g holds the bytes l and nothing else; what was there is there. -/
structure St (w wx : World) (g : Nat) (l : List Int) : Prop where
  blk : Blk wx g 5 (cl l).toArray
  bel : Below w.heap.size w wx
  new : w.heap.size ≤ g

theorem St.has {w wx : World} {g : Nat} {l : List Int} (h : St w wx g l) : Has wx g l := by
  intro j hj
  rw [h.blk.cell]
  simp [cl, List.getD, hj]

theorem St.set {w wx : World} {g : Nat} {l : List Int} (h : St w wx g l) (j : Nat) (z : Int) : St w (wx.setCell ⟨g, j, none⟩ (.int .u8 z)) g (l.set j z) := by
  refine ⟨?_, h.bel.setCell (p := ⟨g, j, none⟩) h.new _, h.new⟩
  have := h.blk.set j (.int .u8 z)
  simpa [cl, List.map_set] using this
theorem Byt.set {l : List Int} (h : Byt l) (j : Nat) {z : Int} (hz : 0 ≤ z ∧ z ≤ 255) : Byt (l.set j z) := by
  intro k hk
  have hk' : k < l.length := by simpa using hk
  have hd : (l.set j z).getD k 0 = if j = k then z else l.getD k 0 := by
    simp only [List.getD, List.getElem?_set, hk']
    split
    · rename_i e; subst e; simp [hk']
    · rfl
  rw [hd]
  split
  · exact hz
  · exact h k hk'

theorem made_blk {w : World} {base g n : Nat} {xs : List Value} (h : w.ownsRow base 5 1 (.slice (some ⟨g, 0, none⟩) n n) n xs) : ∃ cur : List Value, cur.length = n ∧ w.heap[g]? = some (.cells cur.toArray 5 (0, 0)) := by
  rcases h.2 with ⟨h1, _⟩ | ⟨g', cap', cur, h1, _, h2, _, _, h3, _⟩
  · cases h1
  · cases h1
    refine ⟨cur.toList, ?_, by simpa using h2⟩
    simpa using h3
theorem splice_all {cur cs : List Value} (h : cs.length = cur.length) : splice cur 0 cs = cs := by
  unfold splice
  simp [h]

theorem mdl_kind (l : List Int) (p : Int) : (mdl l p).1 = 0 ∨ (mdl l p).1 = 1 ∨ (mdl l p).1 = 2 ∨ (mdl l p).1 = 3 := by
  unfold mdl
  split
  · simp
  · split
    · simp
    · split
      · simp
      · split
        · simp
        · split <;> simp

/-- The world behind header. -/
structure Af (w wx : World) (d g g2 : Nat) (l : List Int) (N : Array Value) : Prop where
  bg : Blk wx g 5 (cl l).toArray
  bg2 : Blk wx g2 5 (cl l).toArray
  bd : Blk wx d 31 N
  bel : Below w.heap.size w wx

theorem has_of {wx : World} {g : Nat} {l : List Int} (h : Blk wx g 5 (cl l).toArray) : Has wx g l := by
  intro j hj
  rw [h.cell]
  simp [cl, List.getD, hj]

theorem head_ex {w w5 : World} {a0 a1 a2 : Addr} {g g2 n : Nat} {l : List Int} {p : Int} (hs : Sent w a0 a1 a2) (bg : Blk w5 g 5 (cl l).toArray) (bg2 : Blk w5 g2 5 (cl l).toArray) (bel : Below w.heap.size w w5) (hgn : w.heap.size ≤ g) (hl : l.length = n) (hn : n ≤ 4096) (hb : Byt l) :
    Calls Ybad.prog 5 #[.pointer (some ⟨w5.heap.size, 0, none⟩)] (w5.alloc (.cells (inflC (.slice (some ⟨g, 0, none⟩) n n) (.int .i64 p)) 31)) fun e w' =>
      e = .returned (errOf (.iface 48 (.pointer (some a0))) (.iface 48 (.pointer (some a1))) (.iface 48 (.pointer (some a2))) (mdl l p).1) ∧ Hid (Af w w' w5.heap.size g g2 l ((inflC (.slice (some ⟨g, 0, none⟩) n n) (.int .i64 p)).setIfInBounds 1 (.int .i64 (mdl l p).2))) := by
  subst hl
  have h3 := hs.size
  have hg5 := bg.lt
  have hg25 := bg2.lt
  have hB : Below w.heap.size w (w5.alloc (.cells (inflC (.slice (some ⟨g, 0, none⟩) l.length l.length) (.int .i64 p)) 31)) := bel.alloc bel.size _
  have hs' := hs.later hB
  refine (header_any w5.heap.size g l.length l p _ (Blk.new _ _ _) _ _ _ hs'.c0 hs'.c1 hs'.c2 (by omega) (by simp; omega) (by omega) (Nat.le_refl _) (by omega) (by omega) (has_of (bg.alloc _)) hb).mono ?_
  rintro e w' ⟨rfl, hd, hk⟩
  exact ⟨rfl, ⟨(bg.alloc _).kept hk (by show g ≠ _; omega), (bg2.alloc _).kept hk (by show g2 ≠ _; omega), hd, hB.trans (hk.below (by simp; omega) (fun k hk => by show k ≠ _; omega))⟩⟩

theorem model_ex {w wx : World} {d g g2 n : Nat} {l : List Int} {N : Array Value} {p : Int} (h : Af w wx d g g2 l N) (hl : l.length = n) (hn : n ≤ 4096) (hb : Byt l) :
    Calls Ybad.prog 6 #[.slice (some ⟨g2, 0, none⟩) n n, .int .i64 p] wx fun e w' => e = .returned (.tuple #[.int .i64 (mdl l p).1, .int .i64 (mdl l p).2]) ∧ Hid (Af w w' d g g2 l N) := by
  subst hl
  refine (model_any g2 l.length l p wx (by omega) (has_of h.bg2) hb).mono ?_
  rintro e w' ⟨rfl, hk⟩
  exact ⟨rfl, ⟨h.bg.kept hk trivial, h.bg2.kept hk trivial, h.bd.kept hk trivial, h.bel.trans (hk.below h.bel.size (fun _ _ => trivial))⟩⟩

theorem row_cells {w3 w4 : World} {g : Nat} {l : List Int} (h : Blk w3 g 5 (cl l).toArray) (hb : Below w3.heap.size w3 w4) : ∀ j v, (cl l)[j]? = some v → w4.cell? ⟨g, j, none⟩ = some v := by
  intro j v hv
  rw [hb.cell (p := ⟨g, j, none⟩) h.lt, h.cell]
  simpa using hv

section
set_option linter.unusedSectionVars false
variable {a0 a1 a2 : Addr} {k : Int} {X : Value} (w : World) (hs : Sent w a0 a1 a2) (hX : errOf (.iface 48 (.pointer (some a0))) (.iface 48 (.pointer (some a1))) (.iface 48 (.pointer (some a2))) k = X) (hk : k = 0 ∨ k = 1 ∨ k = 2 ∨ k = 3)
include hs hX hk
theorem eql_nil : (binOp .eql 33 X .nilIface).run Ybad.prog w = .ok (.bool (k == 0)) w := by
  subst hX
  rcases hk with rfl | rfl | rfl | rfl <;> simp [errOf, go_sem, Ybad.underlying33]
theorem eql_e0 : (binOp .eql 33 X (.iface 48 (.pointer (some a0)))).run Ybad.prog w = .ok (.bool (k == 1)) w := by
  subst hX
  rcases hk with rfl | rfl | rfl | rfl
  · exact run_eql_iface_nil_left w 48 _ Ybad.underlying33
  · exact eql_same w a0
  · exact eql_other w (Ne.symm hs.n01) hs.b1 hs.b0
  · exact eql_other w (Ne.symm hs.n02) hs.b2 hs.b0
theorem eql_e1 : (binOp .eql 33 X (.iface 48 (.pointer (some a1)))).run Ybad.prog w = .ok (.bool (k == 2)) w := by
  subst hX
  rcases hk with rfl | rfl | rfl | rfl
  · exact run_eql_iface_nil_left w 48 _ Ybad.underlying33
  · exact eql_other w hs.n01 hs.b0 hs.b1
  · exact eql_same w a1
  · exact eql_other w (Ne.symm hs.n12) hs.b2 hs.b1
theorem eql_e2 : (binOp .eql 33 X (.iface 48 (.pointer (some a2)))).run Ybad.prog w = .ok (.bool (k == 3)) w := by
  subst hX
  rcases hk with rfl | rfl | rfl | rfl
  · exact run_eql_iface_nil_left w 48 _ Ybad.underlying33
  · exact eql_other w hs.n02 hs.b0 hs.b2
  · exact eql_other w hs.n12 hs.b1 hs.b2
  · exact eql_same w a2
theorem guard_nil (x : Operand) : (eqGuard .eql 33 x (.const .nilIface) X .nilIface).run Ybad.prog w = .ok () w := by
  subst hX
  rcases hk with rfl | rfl | rfl | rfl <;> simp [errOf, eqGuard]
theorem guard_e (x y : Operand) (a : Addr) : (eqGuard .eql 33 x y X (.iface 48 (.pointer (some a)))).run Ybad.prog w = .ok () w := by
  subst hX
  rcases hk with rfl | rfl | rfl | rfl <;> simp [errOf, eqGuard]
end

theorem src_cells {w w1 : World} {a : Addr} {zs : List Int} (h : Below w.heap.size w w1) (hz : ∀ k, k < zs.length → w.cell? (a.add k) = some (.int .u8 (zs.getD k 0))) : ∀ j v, (cl zs)[j]? = some v → w1.cell? (a.add j) = some v := by
  intro j v hv
  obtain ⟨hlt, rfl⟩ := cl_get hv
  exact cell_later h (hz j hlt)

set_option maxHeartbeats 4000000 in
theorem exact_some (a : Addr) (zs : List Int) (cap : Nat) (p fl : Int) (w : World) (hL : zs.length ≤ 4096) (hf : 0 ≤ fl ∧ fl ≤ 255) (a0 a1 a2 : Addr) (hs : Sent w a0 a1 a2)
    (hz : ∀ k, k < zs.length → w.cell? (a.add k) = some (.int .u8 (zs.getD k 0))) (hb : Byt zs) :
    Calls Ybad.prog 3 #[.slice (some a) zs.length cap, .int .i64 p, .int .u8 fl] w fun e w' => e = .returned (.bool true) ∧ Below w.heap.size w w' := by
  obtain ⟨f0, f1⟩ := hf
  obtain ⟨i0, hi, hz0, hz1, hz2⟩ := info_parts Ybad.info5x
  have HS := Hid.mk hs
  have HZ := Hid.mk (And.intro hz hb)
  clear hs hz hb
  obtain ⟨n, hn⟩ : ∃ n, zs.length = n := ⟨_, rfl⟩
  have HL := Hid.mk hn
  rw [hn] at hL ⊢
  clear hn
  go_enter Ybad.func3, Ybad.ntmps3
  go_upto_region 6 with (at_make; refine wpList_make_full _ rfl _ _ 22 rfl w.heap.size 5 i0 (.int .u8 0) 1 Ybad.underlying22 hi hz0 hz1 .i64 .i64 (n : Int) (n : Int) n rfl rfl rfl rfl ?c1 ?c2 ?c3 ?_)
  case c1 => rw [hz2]; omega
  case c2 => unfold maxLen; omega
  case c3 => simp
  intro w1 hown1 hgrow1
  have H1 : Hid ((∃ cur : List Value, cur.length = n ∧ w1.heap[w.heap.size]? = some (.cells cur.toArray 5 (0, 0))) ∧ Below w.heap.size w w1) := ⟨made_blk hown1, (Below.refl _ _).grown hgrow1 (Nat.le_refl _) (by intro k hk; cases hk)⟩
  clear hown1 hgrow1
  obtain ⟨⟨cur, hcl, hcb⟩, hb1⟩ := H1.out
  have HB1 := Hid.mk hb1
  have HCB := Hid.mk (And.intro hcl hcb)
  clear hcl hcb hb1 H1
  go_upto_region 7 with (refine wpList_copy_splice rfl (.tmp 26) (.tmp 27) 22 22 rfl 5 Ybad.underlying22 Ybad.size5 _ _ _ _ _ _ rfl rfl w.heap.size 0 cur 5 HCB.out.2 (cl zs) ?d1 ?d2 ?d3 (cl_one _) w.heap.size w HB1.out (Nat.le_refl _) ?_)
  case d1 => rw [cl_length, HL.out]; simp
  case d2 => exact fun _ => src_cells HB1.out HZ.out.1
  case d3 => rw [cl_length, HL.out, HCB.out.1]; simp
  intro w2 hg2 hb2
  have H2 : Hid (St w w2 w.heap.size zs) := ⟨⟨by rw [splice_all (by rw [cl_length, HL.out, HCB.out.1])] at hg2; exact hg2, hb2, Nat.le_refl _⟩⟩
  clear hg2 hb2 HB1 HCB
  go_upto_region 8 with fail
  go_cut [38] from 18 to 37 (fun c wx => c = .bool (decide (0 < fl % 3) && decide (2 ≤ n)) ∧ w2 = wx)
  case first =>
    by_cases c1 : 0 < fl % 3
    · by_cases c2 : (2 : Int) ≤ (n : Int)
      · go_wp2
        go_meet
        exact ⟨by simp; omega, rfl⟩
      · go_wp2
        go_meet
        exact ⟨by simp; omega, rfl⟩
    · go_wp2
      go_meet
      exact ⟨by simp; omega, rfl⟩
  case rest =>
  obtain ⟨rfl, rfl⟩ := hcut
  obtain ⟨c, hc⟩ : ∃ c, (decide (0 < fl % 3) && decide (2 ≤ n)) = c := ⟨_, rfl⟩
  rw [hc]
  have HC := Hid.mk hc
  clear hc
  go_upto_if 38 with fail
  go_cut [] from 39 to 81 (fun wx => ∃ l, l.length = n ∧ Byt l ∧ St w wx w.heap.size l)
  case first =>
    cases c with
    | false =>
      go_wp2
      go_meet
      exact ⟨zs, HL.out, HZ.out.2, H2.out⟩
    | true =>
      obtain ⟨h3, h2n⟩ : 0 < fl % 3 ∧ 2 ≤ n := by simpa using HC.out
      have hn2 : (2 : Int) ≤ (n : Int) := by omega
      have hn0 : (0 : Int) < (n : Int) := by omega
      have hn1 : (1 : Int) < (n : Int) := by omega
      go_upto_region 9 with fail
      go_cut [9] from 39 to 43 (fun v wx => ∃ z, v = .int .u8 z ∧ Hid (0 ≤ z ∧ z ≤ 255) ∧ w2 = wx)
      case first =>
        have k0 := H2.out.has 0 (by rw [HL.out]; omega)
        go_wp2
        go_meet
        exact ⟨_, rfl, ⟨bits_within _ .u8 _ _⟩, rfl⟩
      case rest =>
      obtain ⟨z1, rfl, Hz1, rfl⟩ := hcut
      go_upto_region 10 with fail
      go_cut [10] from 44 to 47 (fun v wx => ∃ z, v = .int .u8 z ∧ Hid (0 ≤ z ∧ z ≤ 255) ∧ w2 = wx)
      case first =>
        have k0 := H2.out.has 1 (by rw [HL.out]; omega)
        go_wp2
        go_meet
        exact ⟨_, rfl, ⟨bits_within _ .u8 _ _⟩, rfl⟩
      case rest =>
      obtain ⟨z2, rfl, Hz2, rfl⟩ := hcut
      go_upto_if 49 with fail
      go_cut [10] from 48 to 62 (fun v wx => ∃ z l, v = .int .u8 z ∧ Hid (0 ≤ z ∧ z ≤ 255) ∧ l.length = n ∧ Byt l ∧ St w wx w.heap.size l)
      case first =>
        by_cases hm : fl % 3 = 2
        · go_upto_region 12 with fail
          clear hm
          go_cut [10] from 50 to 51 (fun v wx => ∃ z, v = .int .u8 z ∧ Hid (0 ≤ z ∧ z ≤ 255) ∧ w2 = wx)
          case first =>
            go_wp2
            go_meet
            exact ⟨_, rfl, ⟨bits_within _ .u8 _ _⟩, rfl⟩
          case rest =>
          obtain ⟨z3, rfl, Hz3, rfl⟩ := hcut
          by_cases h6 : (6 : Int) ≤ (n : Int)
          · have hn3 : (3 : Int) < (n : Int) := by omega
            have hn4 : (4 : Int) < (n : Int) := by omega
            have hn5 : (5 : Int) < (n : Int) := by omega
            have hn22 : (2 : Int) < (n : Int) := by omega
            have r2 := H2.out.blk.frozen 2
            have r3 := H2.out.blk.frozen 3
            have r4 := H2.out.blk.frozen 4
            have r5 := H2.out.blk.frozen 5
            have k2 := H2.out.has 2 (by rw [HL.out]; omega)
            have k3 := H2.out.has 3 (by rw [HL.out]; omega)
            have k4 := H2.out.has 4 (by rw [HL.out]; omega)
            have k5 := H2.out.has 5 (by rw [HL.out]; omega)
            go_wp2
            go_meet
            exact ⟨_, _, rfl, Hz3, by simp [HL.out], (((HZ.out.2.set 2 (by decide)).set 3 (by decide)).set 4 (by decide)).set 5 (by decide), (((H2.out.set 2 0).set 3 0).set 4 0).set 5 1⟩
          · go_wp2
            go_meet
            exact ⟨_, zs, rfl, Hz3, HL.out, HZ.out.2, H2.out⟩
        · go_wp2
          go_meet
          exact ⟨_, zs, rfl, Hz2, HL.out, HZ.out.2, H2.out⟩
      case rest =>
      obtain ⟨z4, l, rfl, Hz4, hl, hbl, hst⟩ := hcut
      obtain ⟨w3, hw3⟩ : ∃ w3, w3 = wc := ⟨_, rfl⟩
      subst hw3
      have H3 : Hid (l.length = n ∧ Byt l ∧ St w w3 w.heap.size l) := ⟨hl, hbl, hst⟩
      clear hl hbl hst
      go_upto_region 18 with fail
      go_cut [11] from 63 to 69 (fun v wx => ∃ r, v = .int .i64 r ∧ w3 = wx)
      case first =>
        go_wp2
        go_meet
        exact ⟨_, rfl, rfl⟩
      case rest =>
      obtain ⟨z5, rfl, rfl⟩ := hcut
      go_upto_region 19 with fail
      go_cut [10] from 70 to 75 (fun v wx => ∃ z, v = .int .u8 z ∧ Hid (0 ≤ z ∧ z ≤ 255) ∧ w3 = wx)
      case first =>
        go_wp2
        go_meet
        exact ⟨_, rfl, ⟨bits_within _ .u8 _ _⟩, rfl⟩
      case rest =>
      obtain ⟨z6, rfl, Hz6, rfl⟩ := hcut
      have r0 := H3.out.2.2.blk.frozen 0
      have r1 := H3.out.2.2.blk.frozen 1
      have k0 := H3.out.2.2.has 0 (by rw [H3.out.1]; omega)
      have k1 := H3.out.2.2.has 1 (by rw [H3.out.1]; omega)
      go_wp2
      go_meet
      exact ⟨_, by simp [H3.out.1], (H3.out.2.1.set 0 Hz1.out).set 1 Hz6.out, (H3.out.2.2.set 0 z1).set 1 z6⟩
  case rest =>
  obtain ⟨l, hl, hbl, hst⟩ := hcut
  obtain ⟨w3, hw3⟩ : ∃ w3, w3 = wc := ⟨_, rfl⟩
  subst hw3
  have H3 : Hid (l.length = n ∧ Byt l ∧ St w w3 w.heap.size l) := ⟨hl, hbl, hst⟩
  clear hl hbl hst
  go_upto_region 25 with (at_make; refine wpList_make_full _ rfl _ _ 22 rfl w3.heap.size 5 i0 (.int .u8 0) 1 Ybad.underlying22 hi hz0 hz1 .i64 .i64 (n : Int) (n : Int) n rfl rfl rfl rfl ?e1 ?e2 ?e3 ?_)
  case e1 => rw [hz2]; omega
  case e2 => unfold maxLen; omega
  case e3 => simp
  intro w4 hown4 hgrow4
  have H4 : Hid ((∃ cur : List Value, cur.length = n ∧ w4.heap[w3.heap.size]? = some (.cells cur.toArray 5 (0, 0))) ∧ Below w3.heap.size w3 w4) := ⟨made_blk hown4, (Below.refl _ _).grown hgrow4 (Nat.le_refl _) (by intro k hk; cases hk)⟩
  clear hown4 hgrow4
  obtain ⟨⟨cur4, hcl4, hcb4⟩, hb4⟩ := H4.out
  have HB4 := Hid.mk hb4
  have HCB4 := Hid.mk (And.intro hcl4 hcb4)
  clear hcl4 hcb4 hb4 H4
  go_upto_region 26 with (refine wpList_copy_splice rfl (.tmp 87) (.tmp 88) 22 22 rfl 5 Ybad.underlying22 Ybad.size5 _ _ _ _ _ _ rfl rfl w3.heap.size 0 cur4 5 HCB4.out.2 (cl l) ?g1 ?g2 ?g3 (cl_one _) w3.heap.size w3 HB4.out (Nat.le_refl _) ?_)
  case g1 => rw [cl_length, H3.out.1]; simp
  case g2 => exact fun _ => row_cells (H3.out.2.2.blk) HB4.out
  case g3 => rw [cl_length, H3.out.1, HCB4.out.1]; simp
  intro w5 hg5 hb5
  have H5 : Hid (Blk w5 w.heap.size 5 (cl l).toArray ∧ Blk w5 w3.heap.size 5 (cl l).toArray ∧ Below w.heap.size w w5) := ⟨(hb5.block _ H3.out.2.2.blk.lt).trans H3.out.2.2.blk, by rw [splice_all (by rw [cl_length, H3.out.1, HCB4.out.1])] at hg5; exact hg5, H3.out.2.2.bel.trans (hb5.mono H3.out.2.2.bel.size)⟩
  clear hg5 hb5 HB4 HCB4
  have HC5 := Hid.mk (head_ex (p := p) HS.out H5.out.1 H5.out.2.1 H5.out.2.2 (Nat.le_refl _) H3.out.1 hL H3.out.2.1)
  obtain ⟨k, hk⟩ : ∃ k, (mdl l p).1 = k := ⟨_, rfl⟩
  obtain ⟨q, hq⟩ : ∃ q, (mdl l p).2 = q := ⟨_, rfl⟩
  obtain ⟨X, hX⟩ : ∃ X, errOf (.iface 48 (.pointer (some a0))) (.iface 48 (.pointer (some a1))) (.iface 48 (.pointer (some a2))) k = X := ⟨_, rfl⟩
  rw [hk, hq, hX] at HC5
  have HK := Hid.mk (And.intro hk (And.intro hq hX))
  clear hk hq hX
  go_upto_region 28 with (first | (refine wpList_build31b rfl (.tmp 90) (.tmp 91) rfl _ _ _ _ rfl rfl ?_) | (refine wpList_box31 rfl (.tmp 92) rfl _ _ rfl ?_) | (go_at_call 5; refine HC5.out.mono ?_; rintro e w6 ⟨rfl, H6⟩))
  have HC6 := Hid.mk (model_ex (p := p) H6.out H3.out.1 hL H3.out.2.1)
  rw [HK.out.1, HK.out.2.1] at HC6
  go_upto_region 29 with (go_at_call 6; refine HC6.out.mono ?_; rintro e w7 ⟨rfl, H7⟩)
  have HS7 : Hid (Sent w7 a0 a1 a2) := ⟨HS.out.later H7.out.bel⟩
  have HCE : Hid (Calls Ybad.prog 7 #[.slice (some ⟨w.heap.size, 0, none⟩) n n, .slice (some ⟨w3.heap.size, 0, none⟩) n n] w7 fun e w' => e = .returned (.bool true) ∧ w7 = w') := ⟨by
    have := equal_any w.heap.size n w3.heap.size n l w7 (has_of H7.out.bg) (has_of H7.out.bg2) H3.out.2.1
    rw [H3.out.1] at this
    exact this⟩
  have HKK : Hid (k = 0 ∨ k = 1 ∨ k = 2 ∨ k = 3) := ⟨by rw [← HK.out.1]; exact mdl_kind l p⟩
  have HB7 : Hid (Below w.heap.size w w7) := ⟨H7.out.bel⟩
  clear HC6 HC5 H6 H5
  have s0 := HS7.out.c0
  have s1 := HS7.out.c1
  have s2 := HS7.out.c2
  have qn := eql_nil w7 HS7.out HK.out.2.2 HKK.out
  have q0 := eql_e0 w7 HS7.out HK.out.2.2 HKK.out
  have q1 := eql_e1 w7 HS7.out HK.out.2.2 HKK.out
  have q2 := eql_e2 w7 HS7.out HK.out.2.2 HKK.out
  have gn := guard_nil w7 HS7.out HK.out.2.2 HKK.out (.tmp 102)
  have ge0 := guard_e w7 HS7.out HK.out.2.2 HKK.out (.tmp 104) (.tmp 105) a0
  have ge1 := guard_e w7 HS7.out HK.out.2.2 HKK.out (.tmp 107) (.tmp 108) a1
  have ge2 := guard_e w7 HS7.out HK.out.2.2 HKK.out (.tmp 110) (.tmp 111) a2
  go_upto_if 103 with fail
  go_cut [17] from 18 to 112 (fun v wx => v = .int .i64 k ∧ w7 = wx)
  case first =>
    rcases HKK.out with rfl | rfl | rfl | rfl
    · go_wp2
      go_meet
      exact ⟨rfl, rfl⟩
    · go_wp2
      go_meet
      exact ⟨rfl, rfl⟩
    · go_wp2
      go_meet
      exact ⟨rfl, rfl⟩
    · go_wp2
      go_meet
      exact ⟨rfl, rfl⟩
  case rest =>
  obtain ⟨rfl, rfl⟩ := hcut
  clear qn q0 q1 q2 gn ge0 ge1 ge2 s0 s1 s2
  have n0 := (H7.out.bd.cell 0).trans (inflS _ _ _ 0 (by decide) (by decide))
  have n1 := (H7.out.bd.cell 1).trans (inflS1 _ _ _)
  have n2 := (H7.out.bd.cell 2).trans (inflS _ _ _ 2 (by decide) (by decide))
  have n3 := (H7.out.bd.cell 3).trans (inflS _ _ _ 3 (by decide) (by decide))
  have n4 := (H7.out.bd.cell 4).trans (inflS _ _ _ 4 (by decide) (by decide))
  have n5 := (H7.out.bd.cell 5).trans (inflS _ _ _ 5 (by decide) (by decide))
  have n6 := (H7.out.bd.cell 6).trans (inflS _ _ _ 6 (by decide) (by decide))
  go_wp2_with (go_at_call 7; refine HCE.out.mono ?_; rintro e w8 ⟨rfl, rfl⟩)
  go_ret
  exact ⟨rfl, HB7.out⟩
end Go.Proofs.YbulkcdqaDoor
