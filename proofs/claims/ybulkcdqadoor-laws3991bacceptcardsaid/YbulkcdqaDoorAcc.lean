/-
  The walk of the law Accept.
-/
import Derived.Test.YbulkcdqaDoorInfl
import Derived.OwnWalk
import Derived.Laws.AppendOwn
import Derived.Laws.AppendOwnNone
import Derived.Below
namespace Go.Proofs.YbulkcdqaDoor
open Go.RowKit
set_option maxRecDepth 100000
set_option linter.unusedSimpArgs false
set_option linter.unusedVariables false
theorem Ybad.info5x : (Ybad.prog.info? 5).map (fun i => (i.zero, i.size, i.bytes)) = some (some (.int .u8 0), 1, 1) := by kernel_rfl

/-- The first two bytes, as the law reckons them; no dictionary. -/
def flg0 (a b : Int) : Int := bits BinOp.or IntKind.u8 (b * 64) ((wrap64 (31 - (wrap64 (wrap64 (wrap64 (bits BinOp.or IntKind.u8 (a * 16) 8) * 256) + b * 64)).tmod 31)).tmod 31 % 256)
theorem flg0_ok (x y : Int) : 0 ≤ flg0 (x % 8) (y % 4) ∧ flg0 (x % 8) (y % 4) ≤ 255 ∧ unsound (bits BinOp.or IntKind.u8 (x % 8 * 16) 8) (flg0 (x % 8) (y % 4)) = false ∧ bits BinOp.and IntKind.u8 (flg0 (x % 8) (y % 4)) 32 = 0 := by
  have h : ∀ a : Fin 8, ∀ b : Fin 4, 0 ≤ flg0 (a.1 : Int) (b.1 : Int) ∧ flg0 (a.1 : Int) (b.1 : Int) ≤ 255 ∧ unsound (bits BinOp.or IntKind.u8 ((a.1 : Int) * 16) 8) (flg0 (a.1 : Int) (b.1 : Int)) = false ∧ bits BinOp.and IntKind.u8 (flg0 (a.1 : Int) (b.1 : Int)) 32 = 0 := by decide +kernel
  have e := h ⟨(x % 8).toNat, by omega⟩ ⟨(y % 4).toNat, by omega⟩
  simp only [show (((x % 8).toNat : Nat) : Int) = x % 8 from by omega, show (((y % 4).toNat : Nat) : Int) = y % 4 from by omega] at e
  exact e

/-- The second byte; a dictionary. -/
def flg1 (a b : Int) : Int := bits BinOp.or IntKind.u8 (bits BinOp.or IntKind.u8 (b * 64) 32) ((wrap64 (31 - (wrap64 (wrap64 (wrap64 (bits BinOp.or IntKind.u8 (a * 16) 8) * 256) + wrap64 (bits BinOp.or IntKind.u8 (b * 64) 32))).tmod 31)).tmod 31 % 256)
theorem flg1_ok (x y : Int) : 0 ≤ flg1 (x % 8) (y % 4) ∧ flg1 (x % 8) (y % 4) ≤ 255 ∧ unsound (bits BinOp.or IntKind.u8 (x % 8 * 16) 8) (flg1 (x % 8) (y % 4)) = false ∧ (bits BinOp.and IntKind.u8 (flg1 (x % 8) (y % 4)) 32 != 0) = true := by
  have h : ∀ a : Fin 8, ∀ b : Fin 4, 0 ≤ flg1 (a.1 : Int) (b.1 : Int) ∧ flg1 (a.1 : Int) (b.1 : Int) ≤ 255 ∧ unsound (bits BinOp.or IntKind.u8 ((a.1 : Int) * 16) 8) (flg1 (a.1 : Int) (b.1 : Int)) = false ∧ (bits BinOp.and IntKind.u8 (flg1 (a.1 : Int) (b.1 : Int)) 32 != 0) = true := by decide +kernel
  have e := h ⟨(x % 8).toNat, by omega⟩ ⟨(y % 4).toNat, by omega⟩
  simp only [show (((x % 8).toNat : Nat) : Int) = x % 8 from by omega, show (((y % 4).toNat : Nat) : Int) = y % 4 from by omega] at e
  exact e

theorem cmf_ok (x : Int) : 0 ≤ bits BinOp.or IntKind.u8 (x % 8 * 16) 8 ∧ bits BinOp.or IntKind.u8 (x % 8 * 16) 8 ≤ 255 := by
  have h : ∀ a : Fin 8, 0 ≤ bits BinOp.or IntKind.u8 ((a.1 : Int) * 16) 8 ∧ bits BinOp.or IntKind.u8 ((a.1 : Int) * 16) 8 ≤ 255 := by decide +kernel
  have e := h ⟨(x % 8).toNat, by omega⟩
  simp only [show (((x % 8).toNat : Nat) : Int) = x % 8 from by omega] at e
  exact e

theorem inflC_at (v p : Value) (j : Nat) (hj : j < 10) : (inflC v p)[j]? = #[v, p, .int .u64 0, .int .u64 0, .slice none 0 0, .int .i64 0, .int .i64 0, .slice none 0 0, .slice none 0 0, .slice none 0 0][j]? := by
  unfold inflC
  exact Array.getElem?_append_left hj
theorem inflS1 (v p q : Value) : ((inflC v p).setIfInBounds 1 q)[1]? = some q := by
  rw [Array.getElem?_setIfInBounds, if_pos rfl, if_pos]
  have h : (inflC v p)[1]? = some p := inflC_at v p 1 (by decide)
  exact (Array.getElem?_eq_some_iff.1 h).1
theorem inflS (v p q : Value) (j : Nat) (hj : j ≠ 1) (hj' : j < 10) : ((inflC v p).setIfInBounds 1 q)[j]? = #[v, p, .int .u64 0, .int .u64 0, .slice none 0 0, .int .i64 0, .int .i64 0, .slice none 0 0, .slice none 0 0, .slice none 0 0][j]? := by
  rw [Array.getElem?_setIfInBounds, if_neg (by omega), inflC_at v p j hj']

/-- The row under way holds the bytes l. -/
def Row (w wx : World) (l : List Int) (v : Value) : Prop :=
  wx.ownsRow w.heap.size 5 1 v l.length (l.map (Value.int .u8)) ∧ Below w.heap.size w wx ∧ w.heap.size + 1 ≤ wx.heap.size

theorem own_ge {w : World} {base : Nat} {v : Value} {n : Nat} {xs : List Value} (h : w.ownsRow base 5 1 v n xs) : ∀ k, v.ownBlock = some k → base ≤ k := by
  intro k hk
  rcases h.2 with ⟨rfl, _⟩ | ⟨g, cap, cur, rfl, hb, _⟩
  · simp [Value.ownBlock] at hk
  · have : g = k := by simpa [Value.ownBlock] using hk
    omega

theorem Row.step {w wx w' : World} {l : List Int} {v v' : Value} (h : Row w wx l v) (o : Obj) {m : List Int} (ho : w'.ownsRow w.heap.size 5 1 v' (l.length + m.length) (l.map (Value.int .u8) ++ m.map (Value.int .u8))) (hg : (wx.alloc o).grownBy w' v.ownBlock) : Row w w' (l ++ m) v' := by
  obtain ⟨h1, h2, h3⟩ := h
  refine ⟨by simpa using ho, ((h2.alloc (by omega) o).grown hg (by simp; omega) (own_ge h1)), ?_⟩
  have := hg.size
  simp at this
  omega
theorem Row.add {w wx w' : World} {l : List Int} {v v' : Value} (h : Row w wx l v) {m : List Int} (ho : w'.ownsRow w.heap.size 5 1 v' (l.length + m.length) (l.map (Value.int .u8) ++ m.map (Value.int .u8))) (hg : wx.grownBy w' v.ownBlock) : Row w w' (l ++ m) v' := by
  obtain ⟨h1, h2, h3⟩ := h
  refine ⟨by simpa using ho, (h2.grown hg (by omega) (own_ge h1)), ?_⟩
  have := hg.size
  omega
theorem Row.made {w w1 : World} {cap : Nat} (ho : w1.ownsRow w.heap.size 5 1 (.slice (some ⟨w.heap.size, 0, none⟩) 0 cap) 0 []) (hg : w.grownBy w1 none) : Row w w1 [] (.slice (some ⟨w.heap.size, 0, none⟩) 0 cap) := by
  refine ⟨ho, (Below.refl _ _).grown hg (Nat.le_refl _) (by intro k hk; cases hk), ?_⟩
  rcases ho.2 with ⟨h1, _⟩ | ⟨g', cap', cur, h1, _, h2, _⟩
  · cases h1
  · cases h1
    have := (Array.getElem?_eq_some_iff.1 h2).1
    omega

/-- What the rest of the walk asks of the row. -/
theorem Row.form {w wx : World} {l : List Int} {v : Value} (h : Row w wx l v) (hn : 0 < l.length) :
    ∃ g cap, v = .slice (some ⟨g, 0, none⟩) l.length cap ∧ g < wx.heap.size ∧ l.length ≤ cap ∧ cap ≤ maxLen ∧ ∀ j, j < l.length → wx.cell? ⟨g, j, none⟩ = some (.int .u8 (l.getD j 0)) := by
  obtain ⟨h, hB, _⟩ := h
  obtain ⟨g, cap, rfl, _, hlt⟩ := h.form hn
  refine ⟨g, cap, rfl, hlt, ?_, ?_, ?_⟩
  · rcases h.2 with ⟨h1, _⟩ | ⟨g', cap', cur, h1, _, _, h2, _⟩
    · cases h1
    · cases h1; exact h2
  · rcases h.2 with ⟨h1, _⟩ | ⟨g', cap', cur, h1, _, _, _, h2, _⟩
    · cases h1
    · cases h1; exact h2
  · intro j hj
    have := h.cells (g := g) rfl j (.int .u8 (l.getD j 0)) (by simp [List.getElem?_map, List.getElem?_eq_getElem hj, List.getD])
    rw [Addr.add_lit] at this
    simpa using this

theorem cells_new (w : World) (l : List Value) (t : TypeId) (j : Nat) (u : Value) (h : l[j]? = some u) : (w.alloc (.cells l.toArray t)).cell? ((⟨w.heap.size, 0, none⟩ : Addr).add j) = some u := by
  have hb := Blk.new w t l.toArray
  rw [Addr.add_lit, hb.cell]
  simpa using h
theorem one_u8 (l : List Int) : ∀ u ∈ l.map (Value.int .u8), u.oneCell' = true := by
  intro u hu
  obtain ⟨z, _, rfl⟩ := List.mem_map.1 hu
  rfl

theorem tail_cells {w wx : World} {l : List Int} {v : Value} {zs : List Int} {a : Addr} (h : Row w wx l v) (hz : ∀ k, k < zs.length → w.cell? (a.add k) = some (.int .u8 (zs.getD k 0))) :
    ∀ j u, (zs.map (Value.int .u8))[j]? = some u → wx.cell? (a.add j) = some u := by
  intro j u hu
  rw [List.getElem?_map] at hu
  obtain ⟨z, hz1, rfl⟩ := Option.map_eq_some_iff.1 hu
  obtain ⟨hlt, hj⟩ := List.getElem?_eq_some_iff.1 hz1
  have := cell_later h.2.1 (hz j hlt)
  rw [this]
  simp [List.getD, hz1]

theorem Row.shape {w wx : World} {l : List Int} {v : Value} (h : Row w wx l v) (hn : 0 < l.length) : ∃ g cap, v = .slice (some ⟨g, 0, none⟩) l.length cap := by
  obtain ⟨g, cap, e, _⟩ := h.form hn
  exact ⟨g, cap, e⟩

theorem head0 {w wx : World} {x y : Int} {zs : List Int} {g n cap : Nat} (hR : Row w wx ([x, y] ++ zs) (.slice (some ⟨g, 0, none⟩) n cap)) (hs : 3 ≤ w.heap.size) (hL : zs.length ≤ 4096)
    (x0 : 0 ≤ x) (x1 : x ≤ 255) (y0 : 0 ≤ y) (y1 : y ≤ 255) (hu : unsound x y = false) (hd : bits BinOp.and IntKind.u8 y 32 = 0) :
    Calls Ybad.prog 5 #[.pointer (some ⟨wx.heap.size, 0, none⟩)] (wx.alloc (.cells (inflC (.slice (some ⟨g, 0, none⟩) n cap) (.int .i64 0)) 31)) fun e w' =>
      e = .returned .nilIface ∧ w'.cell? ⟨wx.heap.size, 1, none⟩ = some (.int .i64 2) ∧ w'.cell? ⟨wx.heap.size, 2, none⟩ = some (.int .u64 0) ∧ w'.cell? ⟨wx.heap.size, 3, none⟩ = some (.int .u64 0) ∧ Hid (Below w.heap.size w w') := by
  obtain ⟨g', cap', e, hlt, hc1, hc2, hcell⟩ := hR.form (by simp)
  have hB := hR.2.1
  have hsz := hR.2.2
  simp at e
  obtain ⟨rfl, hn, rfl⟩ := e
  have c0 := hcell 0 (by simp)
  have c1 := hcell 1 (by simp)
  simp at c0 c1
  have hsz4 : 4 ≤ (wx.alloc (.cells (inflC (.slice (some ⟨g, 0, none⟩) n cap) (.int .i64 0)) 31)).heap.size := by simp; omega
  refine (header_plain wx.heap.size g 0 n cap x y _ _ (Blk.new _ _ _) (inflC_at _ _ 0 (by decide)) _ (inflC_at _ _ 1 (by decide)) (by omega) (by omega) ?_ ?_ x0 x1 y0 y1 (by simp; omega) hsz4 hu hd).mono ?_
  · rw [Below.cell ((Below.refl wx.heap.size wx).alloc (Nat.le_refl _) _) (p := ⟨g, 0, none⟩) hlt]; exact c0
  · rw [Below.cell ((Below.refl wx.heap.size wx).alloc (Nat.le_refl _) _) (p := ⟨g, 0 + 1, none⟩) hlt]; exact c1
  · rintro e w' ⟨rfl, hb, hk⟩
    refine ⟨rfl, (hb.cell 1).trans (inflS1 _ _ _), (hb.cell 2).trans (inflS _ _ _ 2 (by decide) (by decide)), (hb.cell 3).trans (inflS _ _ _ 3 (by decide) (by decide)), ⟨?_⟩⟩
    exact (hB.alloc (by omega) _).trans (hk.below (by simp; omega) (fun k hk => by omega))

theorem head1 {w wx : World} {x y : Int} {zs : List Int} {g n cap : Nat} (hR : Row w wx ([x, y, 0, 0, 0, 1] ++ zs) (.slice (some ⟨g, 0, none⟩) n cap)) (hs : 3 ≤ w.heap.size) {e2 : Value} (hg2 : w.cell? ⟨2, 0, none⟩ = some e2) (hL : zs.length ≤ 4096)
    (x0 : 0 ≤ x) (x1 : x ≤ 255) (y0 : 0 ≤ y) (y1 : y ≤ 255) (hu : unsound x y = false) (hd : (bits BinOp.and IntKind.u8 y 32 != 0) = true) :
    Calls Ybad.prog 5 #[.pointer (some ⟨wx.heap.size, 0, none⟩)] (wx.alloc (.cells (inflC (.slice (some ⟨g, 0, none⟩) n cap) (.int .i64 0)) 31)) fun e w' =>
      e = .returned .nilIface ∧ w'.cell? ⟨wx.heap.size, 1, none⟩ = some (.int .i64 6) ∧ w'.cell? ⟨wx.heap.size, 2, none⟩ = some (.int .u64 0) ∧ w'.cell? ⟨wx.heap.size, 3, none⟩ = some (.int .u64 0) ∧ Hid (Below w.heap.size w w') := by
  obtain ⟨g', cap', e, hlt, hc1, hc2, hcell⟩ := hR.form (by simp)
  have hB := hR.2.1
  have hsz := hR.2.2
  simp at e
  obtain ⟨rfl, hn, rfl⟩ := e
  have c0 := hcell 0 (by simp)
  have c1 := hcell 1 (by simp)
  have c2 := hcell 2 (by simp)
  have c3 := hcell 3 (by simp)
  have c4 := hcell 4 (by simp)
  have c5 := hcell 5 (by simp)
  simp at c0 c1 c2 c3 c4 c5
  have hll : n ≤ cap := by simp at hc1; omega
  have hcm : cap ≤ 9223372036854775807 := by unfold maxLen at hc2; omega
  have hsz4 : 4 ≤ (wx.alloc (.cells (inflC (.slice (some ⟨g, 0, none⟩) n cap) (.int .i64 0)) 31)).heap.size := by simp; omega
  have C : ∀ j, (wx.alloc (.cells (inflC (.slice (some ⟨g, 0, none⟩) n cap) (.int .i64 0)) 31)).cell? ⟨g, j, none⟩ = wx.cell? ⟨g, j, none⟩ := fun j => Below.cell ((Below.refl wx.heap.size wx).alloc (Nat.le_refl _) _) (p := ⟨g, j, none⟩) hlt
  refine (header_empty wx.heap.size g 0 n cap x y _ _ (Blk.new _ _ _) (inflC_at _ _ 0 (by decide)) _ (inflC_at _ _ 1 (by decide)) (by omega) (by omega) (by omega) ((C _).trans c0) ((C _).trans c1) x0 x1 y0 y1 (by simp; omega) hsz4 hu hd (by omega) hll hcm
    0 0 0 1 ((C _).trans c2) ((C _).trans c3) ((C _).trans c4) ((C _).trans c5) (by decide) (by decide) (by decide) (by decide) e2 (cell_later ((hB.alloc (by omega) _)) hg2) (by omega) (by decide)).mono ?_
  rintro e w' ⟨rfl, hb, hk⟩
  refine ⟨rfl, (hb.cell 1).trans (inflS1 _ _ _), (hb.cell 2).trans (inflS _ _ _ 2 (by decide) (by decide)), (hb.cell 3).trans (inflS _ _ _ 3 (by decide) (by decide)), ⟨?_⟩⟩
  exact (hB.alloc (by omega) _).trans (hk.below (by simp; omega) (fun k hk => by omega))

set_option maxHeartbeats 1000000 in
theorem accept_any (win lev : Int) (dict : Bool) (ao : Option Addr) (zs : List Int) (cap : Nat) (w : World) (hL : zs.length ≤ 4096) (hwin : 0 ≤ win ∧ win ≤ 255) (hlev : 0 ≤ lev ∧ lev ≤ 255) (e2 : Value) (hg2 : w.cell? ⟨2, 0, none⟩ = some e2)
    (hn : ao = none → zs.length = 0 ∧ cap = 0) (hz : ∀ a, ao = some a → ∀ k, k < zs.length → w.cell? (a.add k) = some (.int .u8 (zs.getD k 0))) :
    Calls Ybad.prog 4 #[.int .u8 win, .int .u8 lev, .bool dict, .slice ao zs.length cap] w fun e w' => e = .returned (.bool true) ∧ Below w.heap.size w w' := by
  obtain ⟨wi0, wi1⟩ := hwin
  obtain ⟨le0, le1⟩ := hlev
  have HZ : Hid ((ao = none → zs.length = 0 ∧ cap = 0) ∧ ∀ a, ao = some a → ∀ k, k < zs.length → w.cell? (a.add k) = some (.int .u8 (zs.getD k 0))) := ⟨hn, hz⟩
  clear hn hz
  obtain ⟨i0, hi, hz0, hz1, hz2⟩ := info_parts Ybad.info5x
  have HS : Hid (w.heap.size ≥ 3) := ⟨World.block_lt_of_cell? _ _ hg2⟩
  have HG : Hid (w.cell? ⟨2, 0, none⟩ = some e2) := ⟨hg2⟩
  clear hg2
  cases dict with
  | false =>
    go_enter Ybad.func4, Ybad.ntmps4
    go_upto_region 11 with (at_make; refine wpList_make_own _ rfl _ _ 22 rfl w.heap.size 5 i0 (.int .u8 0) 1 Ybad.underlying22 hi hz0 hz1 .i64 .i64 ((zs.length : Int) + 6) (zs.length + 6) rfl rfl ?c0 ?c1 ?c2 ?c3 ?_)
    case c0 => simp
    case c1 => rw [hz2]; omega
    case c2 => unfold maxLen; omega
    case c3 => simp
    intro w1 hown1 hgrow1
    have HO : Hid (Row w w1 [] (.slice (some ⟨w.heap.size, 0, none⟩) 0 (zs.length + 6))) := ⟨Row.made hown1 hgrow1⟩
    clear hown1 hgrow1
    go_upto_region 10 with fail
    go_cut [10] from 31 to 42 (fun f wx => ∃ fv, f = .int .u8 fv ∧ Hid (0 ≤ fv ∧ fv ≤ 255 ∧ unsound (bits BinOp.or IntKind.u8 (win % 8 * 16) 8) fv = false ∧ bits BinOp.and IntKind.u8 fv 32 = 0) ∧ wx = w1)
    case first =>
      go_wp2
      go_meet
      exact ⟨_, rfl, ⟨flg0_ok win lev⟩, rfl⟩
    case rest =>
      obtain ⟨fv, rfl, HF, rfl⟩ := hcut
      obtain ⟨cv, hcv⟩ : ∃ cv, bits BinOp.or IntKind.u8 (win % 8 * 16) 8 = cv := ⟨_, rfl⟩
      go_upto_region 14 with (at_builtin; refine wpList_append_own _ rfl (.tmp 43) (.tmp 46) 22 rfl w.heap.size 5 i0 (.int .u8 0) 1 1 Ybad.underlying22 hi hz0 hz1 hz2 rfl (by decide) _ _ _ rfl (HO.out.1.alloc _) ⟨wc.heap.size, 0, none⟩ 2 2 ([cv, fv].map (Value.int .u8)) rfl rfl ?c1 ?c2 ?c3 ?c4 ?c5 ?_)
      case c1 => exact cells_new _ _ _
      case c2 => exact one_u8 _
      case c3 => unfold maxLen; simp
      case c4 => simp
      case c5 => have := HO.out.2.2; simp; omega
      intro v2 w2 hown2 hgrow2 _
      have HO2 : Hid (Row w w2 [cv, fv] v2) := ⟨HO.out.step _ hown2 hgrow2⟩
      clear hown2 hgrow2
      go_upto_region 14 with fail
      go_cut [11] from 52 to 54 (fun v wx => Row w wx ([cv, fv] ++ zs) v)
      case first =>
        cases ao with
        | none =>
          obtain ⟨hz, hc⟩ := HZ.out.1 rfl
          obtain rfl : zs = [] := List.length_eq_zero_iff.1 hz
          subst hc
          go_wp2_with (at_builtin; refine wpList_append_own_none rfl (.tmp 52) (.tmp 53) 22 rfl w.heap.size 5 i0 1 Ybad.underlying22 hi _ _ _ rfl HO2.out.1 rfl ?_)
          go_meet
          exact HO2.out
        | some a =>
          go_wp2_with (at_builtin; refine wpList_append_own _ rfl (.tmp 52) (.tmp 53) 22 rfl w.heap.size 5 i0 (.int .u8 0) 1 1 Ybad.underlying22 hi hz0 hz1 hz2 rfl (by decide) _ _ _ rfl HO2.out.1 a zs.length cap (zs.map (Value.int .u8)) rfl (by simp) ?c1 ?c2 ?c3 ?c4 ?c5 ?_)
          case c1 => exact tail_cells HO2.out (HZ.out.2 a rfl)
          case c2 => exact one_u8 _
          case c3 => unfold maxLen; simp; omega
          case c4 => simp; omega
          case c5 => have := HO2.out.2.2; omega
          intro v3 w3 hown3 hgrow3 _
          have HO3 : Hid (Row w w3 ([cv, fv] ++ zs) v3) := ⟨HO2.out.add hown3 hgrow3⟩
          clear hown3 hgrow3
          go_wp2
          go_meet
          exact HO3.out
      case rest =>
        obtain ⟨g, cap2, rfl⟩ := hcut.shape (by simp)
        obtain ⟨n, hn⟩ : ∃ n, ([cv, fv] ++ zs).length = n := ⟨_, rfl⟩
        rw [hn] at hcut ⊢
        obtain ⟨f0, f1, f2, f3⟩ := HF.out
        obtain ⟨k0, k1⟩ := cmf_ok win
        rw [hcv] at f2 k0 k1
        have HC := (Hid.mk (head0 hcut HS.out hL k0 k1 f0 f1 f2 f3))
        clear hcut f0 f1 f2 f3 k0 k1 hcv
        go_wp2_with (first | (refine wpList_build31a rfl (.tmp 55) rfl _ _ _ rfl ?_) | (refine wpList_box31 rfl (.tmp 56) rfl _ _ rfl ?_) | (go_at_call 5; refine HC.out.mono ?_; rintro e w' ⟨rfl, q1, q2, q3, HB⟩))
        go_ret
        exact ⟨rfl, HB.out⟩
  | true =>
    go_enter Ybad.func4, Ybad.ntmps4
    go_upto_region 11 with (at_make; refine wpList_make_own _ rfl _ _ 22 rfl w.heap.size 5 i0 (.int .u8 0) 1 Ybad.underlying22 hi hz0 hz1 .i64 .i64 ((zs.length : Int) + 6) (zs.length + 6) rfl rfl ?c0 ?c1 ?c2 ?c3 ?_)
    case c0 => simp
    case c1 => rw [hz2]; omega
    case c2 => unfold maxLen; omega
    case c3 => simp
    intro w1 hown1 hgrow1
    have HO : Hid (Row w w1 [] (.slice (some ⟨w.heap.size, 0, none⟩) 0 (zs.length + 6))) := ⟨Row.made hown1 hgrow1⟩
    clear hown1 hgrow1
    go_upto_region 10 with fail
    go_cut [10] from 31 to 42 (fun f wx => ∃ fv, f = .int .u8 fv ∧ Hid (0 ≤ fv ∧ fv ≤ 255 ∧ unsound (bits BinOp.or IntKind.u8 (win % 8 * 16) 8) fv = false ∧ (bits BinOp.and IntKind.u8 fv 32 != 0) = true) ∧ wx = w1)
    case first =>
      go_wp2
      go_meet
      exact ⟨_, rfl, ⟨flg1_ok win lev⟩, rfl⟩
    case rest =>
      obtain ⟨fv, rfl, HF, rfl⟩ := hcut
      obtain ⟨cv, hcv⟩ : ∃ cv, bits BinOp.or IntKind.u8 (win % 8 * 16) 8 = cv := ⟨_, rfl⟩
      go_upto_region 14 with (at_builtin; refine wpList_append_own _ rfl (.tmp 43) (.tmp 46) 22 rfl w.heap.size 5 i0 (.int .u8 0) 1 1 Ybad.underlying22 hi hz0 hz1 hz2 rfl (by decide) _ _ _ rfl (HO.out.1.alloc _) ⟨wc.heap.size, 0, none⟩ 2 2 ([cv, fv].map (Value.int .u8)) rfl rfl ?c1 ?c2 ?c3 ?c4 ?c5 ?_)
      case c1 => exact cells_new _ _ _
      case c2 => exact one_u8 _
      case c3 => unfold maxLen; simp
      case c4 => simp
      case c5 => have := HO.out.2.2; simp; omega
      intro v2 w2 hown2 hgrow2 _
      have HO2 : Hid (Row w w2 [cv, fv] v2) := ⟨HO.out.step _ hown2 hgrow2⟩
      clear hown2 hgrow2
      go_upto_region 14 with (at_builtin; refine wpList_append_own _ rfl (.tmp 49) (.tmp 50) 22 rfl w.heap.size 5 i0 (.int .u8 0) 1 1 Ybad.underlying22 hi hz0 hz1 hz2 rfl (by decide) _ _ _ rfl (HO2.out.1.alloc _) ⟨w2.heap.size, 0, none⟩ 4 4 ([0, 0, 0, 1].map (Value.int .u8)) rfl rfl ?d1 ?d2 ?d3 ?d4 ?d5 ?_)
      case d1 => exact cells_new _ _ _
      case d2 => exact one_u8 _
      case d3 => unfold maxLen; simp
      case d4 => simp
      case d5 => have := HO2.out.2.2; simp; omega
      intro v9 w9 hown9 hgrow9 _
      have HO9 : Hid (Row w w9 [cv, fv, 0, 0, 0, 1] v9) := ⟨HO2.out.step _ hown9 hgrow9⟩
      clear hown9 hgrow9 HO2
      go_upto_region 14 with fail
      go_cut [11] from 52 to 54 (fun v wx => Row w wx ([cv, fv, 0, 0, 0, 1] ++ zs) v)
      case first =>
        cases ao with
        | none =>
          obtain ⟨hz, hc⟩ := HZ.out.1 rfl
          obtain rfl : zs = [] := List.length_eq_zero_iff.1 hz
          subst hc
          go_wp2_with (at_builtin; refine wpList_append_own_none rfl (.tmp 52) (.tmp 53) 22 rfl w.heap.size 5 i0 1 Ybad.underlying22 hi _ _ _ rfl HO9.out.1 rfl ?_)
          go_meet
          exact HO9.out
        | some a =>
          go_wp2_with (at_builtin; refine wpList_append_own _ rfl (.tmp 52) (.tmp 53) 22 rfl w.heap.size 5 i0 (.int .u8 0) 1 1 Ybad.underlying22 hi hz0 hz1 hz2 rfl (by decide) _ _ _ rfl HO9.out.1 a zs.length cap (zs.map (Value.int .u8)) rfl (by simp) ?c1 ?c2 ?c3 ?c4 ?c5 ?_)
          case c1 => exact tail_cells HO9.out (HZ.out.2 a rfl)
          case c2 => exact one_u8 _
          case c3 => unfold maxLen; simp; omega
          case c4 => simp; omega
          case c5 => have := HO9.out.2.2; omega
          intro v3 w3 hown3 hgrow3 _
          have HO3 : Hid (Row w w3 ([cv, fv, 0, 0, 0, 1] ++ zs) v3) := ⟨HO9.out.add hown3 hgrow3⟩
          clear hown3 hgrow3
          go_wp2
          go_meet
          exact HO3.out
      case rest =>
        obtain ⟨g, cap2, rfl⟩ := hcut.shape (by simp)
        obtain ⟨n, hn⟩ : ∃ n, ([cv, fv, 0, 0, 0, 1] ++ zs).length = n := ⟨_, rfl⟩
        rw [hn] at hcut ⊢
        obtain ⟨f0, f1, f2, f3⟩ := HF.out
        obtain ⟨k0, k1⟩ := cmf_ok win
        rw [hcv] at f2 k0 k1
        have HC := (Hid.mk (head1 hcut HS.out HG.out hL k0 k1 f0 f1 f2 f3))
        clear hcut f0 f1 f2 f3 k0 k1 hcv
        go_wp2_with (first | (refine wpList_build31a rfl (.tmp 55) rfl _ _ _ rfl ?_) | (refine wpList_box31 rfl (.tmp 56) rfl _ _ rfl ?_) | (go_at_call 5; refine HC.out.mono ?_; rintro e w' ⟨rfl, q1, q2, q3, HB⟩))
        go_ret
        exact ⟨rfl, HB.out⟩
end Go.Proofs.YbulkcdqaDoor
