/-
  (*Node).sendBare by its contract.
-/
import Derived.Test.YbulkcdnwBase
import Derived.Deep.RegionHeld3
import Derived.Deep.RegionLaw
import Derived.Deep.DrawnRows
namespace Go.Proofs.Ybulkcdnw
open Go.RowKit
set_option maxRecDepth 100000
set_option linter.unusedSimpArgs false
set_option linter.unusedVariables false
attribute [local go_sem ↓] Go.wp_at_zero Go.wp_at_succ

def zero83 : Value := .agg #[.string ⟨#[]⟩, .string ⟨#[]⟩, .string ⟨#[]⟩, .int .u64 0, .string ⟨#[]⟩, .slice none 0 0, .pointer none, .int .u64 0, .pointer none, .pointer none, .pointer none, .pointer none, .pointer none, .pointer none, .pointer none, .slice none 0 0, .map none, .string ⟨#[]⟩, .pointer none]
theorem info83 : (Yba.prog.info? 83).map (fun i => (i.zero, i.size, i.bytes)) = some (some zero83, 19, 224) := by kernel_rfl

theorem news_env (w : World) (a : Obj) (cs : Array Value) : ∀ j u, cs.toList[j]? = some u → ((w.alloc a).alloc (.cells cs 83)).cell? ((⟨w.heap.size + 1, 0, none⟩ : Addr).add j) = some u :=
  World.news_of_block (t := 83) (fr := (0, 0)) (by have := heap_alloc_new (w.alloc a) (.cells cs 83); simpa using this)

theorem after_append {w w1 : World} {base nb n : Nat} {sv : Value} {xs : List Value} {N M E : Array Value} (ho : w.ownsRow base 83 19 sv n xs) (hN : Blk w nb 72 N)
    (hg : ((w.alloc (.cells M 81)).alloc (.cells E 83)).drew.grownBy w1 sv.ownBlock) : Blk w1 nb 72 N ∧ Blk w1 w.heap.size 81 M :=
  ⟨((hN.alloc _).alloc _).drew.grown hg (own_apart ho hN (by decide)), ((Blk.new w 81 M).alloc _).drew.grown hg (fun e => by
    obtain ⟨_, c, hc⟩ := own_type ho e
    have := Array.getElem?_eq_some_iff.1 hc
    obtain ⟨h, _⟩ := this
    omega)⟩

theorem send_fin {w w1 : World} {base nb n g cap : Nat} {sv : Value} {xs news : List Value} {N M E : Array Value} (ho : w.ownsRow base 83 19 sv n xs) (hN : Blk w nb 72 N) (hbase : base ≤ nb)
    (hg : ((w.alloc (.cells M 81)).alloc (.cells E 83)).drew.grownBy w1 sv.ownBlock) (h1 : w1.ownsRow base 83 19 (.slice (some ⟨g, 0, none⟩) (n + 1) cap) (n + 1) (xs ++ news)) :
    ∃ sv', Blk (w1.setCell ⟨nb, 61, none⟩ (.slice (some ⟨g, 0, none⟩) (n + 1) cap)) nb 72 (N.setIfInBounds 61 sv') ∧ (w1.setCell ⟨nb, 61, none⟩ (.slice (some ⟨g, 0, none⟩) (n + 1) cap)).ownsRow base 83 19 sv' (n + 1) (xs ++ news) ∧
        Kept (fun k => k < base ∨ (k ≠ nb ∧ ∀ c, w.heap[k]? ≠ some (.cells c 83 (0, 0)))) w (w1.setCell ⟨nb, 61, none⟩ (.slice (some ⟨g, 0, none⟩) (n + 1) cap)) := by
  obtain ⟨hN1, _⟩ := after_append ho hN hg
  refine ⟨_, hN1.set 61 _, ownsRow_setCell_other h1 ?_ _, ?_⟩
  · exact own_apart h1 hN1 (by decide)
  · refine (Kept.grown (((Kept.refl _ w).alloc _).alloc _).drew hg ?_).setCell ?_ _
    · intro k hk _ hp
      obtain ⟨hb, c, hc⟩ := own_type ho hk
      rcases hp with hp | ⟨_, hp⟩
      · omega
      · exact hp c hc
    · rintro (h | ⟨h, _⟩)
      · simp at h; omega
      · exact h rfl

set_option maxHeartbeats 1000000 in
theorem sendBare_in (base nb n : Nat) (N : Array Value) (nm ad st gr to : ByteArray) (inc : Int) (sv : Value) (xs : List Value)
    (m0 m1 m2 m3 m4 m5 m6 m7 m8 m9 m10 m11 m12 m13 m14 m15 m16 m17 : Value) (w : World)
    (hN : Blk w nb 72 N) (hbase : base ≤ nb)
    (h0 : N[0]? = some (.string nm)) (h1 : N[1]? = some (.int .u64 inc)) (h2 : N[2]? = some (.string ad)) (h4 : N[4]? = some (.string st)) (h20 : N[20]? = some (.string gr)) (h61 : N[61]? = some sv)
    (hown : w.ownsRow base 83 19 sv n xs) (hn : n ≤ 100000)
    (hm : ∀ u ∈ [m0, m4, m5, m6, m7, m8, m9, m10, m11, m12, m13, m14, m15, m17], u.oneCell' = true)
    (hst : (st.toList == [106, 111, 105, 110, 105, 110, 103]) = false) :
    Calls Yba.prog 27 #[.pointer (some ⟨nb, 0, none⟩), .string to, .agg #[m0, m1, m2, m3, m4, m5, m6, m7, m8, m9, m10, m11, m12, m13, m14, m15, m16, m17]] w fun e w' => e = .returned (.tuple #[]) ∧
      ∃ sv', Blk w' nb 72 (N.setIfInBounds 61 sv') ∧ w'.ownsRow base 83 19 sv' (n + 1) (xs ++ [.string to, m0, .string nm, .int .u64 inc, .string ad, m4, m5, m6, m7, m8, m9, m10, m11, m12, m13, m14, m15, .string gr, m17]) ∧
        Kept (fun k => k < base ∨ (k ≠ nb ∧ ∀ c, w.heap[k]? ≠ some (.cells c 83 (0, 0)))) w w' := by
  have hlt := hN.lt
  have c0 : w.cell? ⟨nb, 0, none⟩ = some (.string nm) := (hN.cell 0).trans h0
  have c1 : w.cell? ⟨nb, 1, none⟩ = some (.int .u64 inc) := (hN.cell 1).trans h1
  have c2 : w.cell? ⟨nb, 2, none⟩ = some (.string ad) := (hN.cell 2).trans h2
  have c4 : w.cell? ⟨nb, 4, none⟩ = some (.string st) := (hN.cell 4).trans h4
  have c20 : w.cell? ⟨nb, 20, none⟩ = some (.string gr) := (hN.cell 20).trans h20
  have c61 : w.cell? ⟨nb, 61, none⟩ = some sv := (hN.cell 61).trans h61
  have f61 : w.frozen? ⟨nb, 61, none⟩ = false := hN.frozen 61
  go_enter Yba.func27, Yba.ntmps27
  go_wp2
  obtain ⟨i0, hi, hz0, hz1, hz2⟩ := info_parts info83
  have HO : Hid (w.ownsRow base 83 19 sv n xs) := hown
  have HM : Hid (∀ u ∈ [Value.string to, m0, .string nm, .int .u64 inc, .string ad, m4, m5, m6, m7, m8, m9, m10, m11, m12, m13, m14, m15, .string gr, m17], u.oneCell' = true) := by
    intro u hu
    simp only [List.mem_cons, List.not_mem_nil, or_false] at hu hm
    rcases hu with rfl | rfl | rfl | rfl | rfl | rfl | rfl | rfl | rfl | rfl | rfl | rfl | rfl | rfl | rfl | rfl | rfl | rfl | rfl <;> first | rfl | (apply hm; simp)
  have HN : Hid (Blk w nb 72 N) := hN
  clear hm hown hN
  go_region_law
    ((refine step_append_lies _ (by rfl) (.tmp 33) (.tmp 37) 67 (by rfl) base 83 i0 zero83 19 224 Yba.underlying67 hi hz0 hz1 hz2 rfl (by decide) sv n xs (by simp [Act.eval, Act.put]) (by exact (HO.out.alloc _).alloc _) ⟨w.heap.size + 1, 0, none⟩ 1 1
        [Value.string to, m0, .string nm, .int .u64 inc, .string ad, m4, m5, m6, m7, m8, m9, m10, m11, m12, m13, m14, m15, .string gr, m17] (by simp [Act.eval, Act.put]) rfl (by exact news_env _ _ #[Value.string to, m0, .string nm, .int .u64 inc, .string ad, m4, m5, m6, m7, m8, m9, m10, m11, m12, m13, m14, m15, .string gr, m17]) HM.out (by decide) (by unfold maxLen; omega) (by omega) (by simp; omega) (w.heap.size + 1 + 1) (by simp) ?_; intro g cap w1 hown1 hgrow hat hlt1; obtain ⟨k1, k2⟩ := after_append HO.out HN.out hgrow; have kc := k1.cell; have kf := k1.frozen; have mc := k2.cell; have KN : Hid (Blk w1 nb 72 N) := k1; clear k1 k2))
  all_goals (go_end0; exact ⟨rfl, send_fin HO.out HN.out hbase (by assumption) (by assumption)⟩)
set_option maxHeartbeats 1000000 in
theorem sendBare_joining (base nb n : Nat) (N : Array Value) (nm ad st gr to : ByteArray) (inc : Int) (sv : Value) (xs : List Value)
    (m0 m1 m2 m3 m4 m5 m6 m7 m8 m9 m10 m11 m12 m13 m14 m15 m16 m17 : Value) (w : World)
    (hN : Blk w nb 72 N) (hbase : base ≤ nb)
    (h0 : N[0]? = some (.string nm)) (h1 : N[1]? = some (.int .u64 inc)) (h2 : N[2]? = some (.string ad)) (h4 : N[4]? = some (.string st)) (h20 : N[20]? = some (.string gr)) (h61 : N[61]? = some sv)
    (hown : w.ownsRow base 83 19 sv n xs) (hn : n ≤ 100000)
    (hm : ∀ u ∈ [m0, m4, m5, m6, m7, m8, m9, m10, m11, m12, m13, m14, m15, m16, m17], u.oneCell' = true)
    (hst : (st.toList == [106, 111, 105, 110, 105, 110, 103]) = true) :
    Calls Yba.prog 27 #[.pointer (some ⟨nb, 0, none⟩), .string to, .agg #[m0, m1, m2, m3, m4, m5, m6, m7, m8, m9, m10, m11, m12, m13, m14, m15, m16, m17]] w fun e w' => e = .returned (.tuple #[]) ∧
      ∃ sv', Blk w' nb 72 (N.setIfInBounds 61 sv') ∧ w'.ownsRow base 83 19 sv' (n + 1) (xs ++ [.string to, m0, .string nm, .int .u64 inc, .string ad, m4, m5, m6, m7, m8, m9, m10, m11, m12, m13, m14, m15, m16, m17]) ∧
        Kept (fun k => k < base ∨ (k ≠ nb ∧ ∀ c, w.heap[k]? ≠ some (.cells c 83 (0, 0)))) w w' := by
  have hlt := hN.lt
  have c0 : w.cell? ⟨nb, 0, none⟩ = some (.string nm) := (hN.cell 0).trans h0
  have c1 : w.cell? ⟨nb, 1, none⟩ = some (.int .u64 inc) := (hN.cell 1).trans h1
  have c2 : w.cell? ⟨nb, 2, none⟩ = some (.string ad) := (hN.cell 2).trans h2
  have c4 : w.cell? ⟨nb, 4, none⟩ = some (.string st) := (hN.cell 4).trans h4
  have c20 : w.cell? ⟨nb, 20, none⟩ = some (.string gr) := (hN.cell 20).trans h20
  have c61 : w.cell? ⟨nb, 61, none⟩ = some sv := (hN.cell 61).trans h61
  have f61 : w.frozen? ⟨nb, 61, none⟩ = false := hN.frozen 61
  go_enter Yba.func27, Yba.ntmps27
  go_wp2
  obtain ⟨i0, hi, hz0, hz1, hz2⟩ := info_parts info83
  have HO : Hid (w.ownsRow base 83 19 sv n xs) := hown
  have HM : Hid (∀ u ∈ [Value.string to, m0, .string nm, .int .u64 inc, .string ad, m4, m5, m6, m7, m8, m9, m10, m11, m12, m13, m14, m15, m16, m17], u.oneCell' = true) := by
    intro u hu
    simp only [List.mem_cons, List.not_mem_nil, or_false] at hu hm
    rcases hu with rfl | rfl | rfl | rfl | rfl | rfl | rfl | rfl | rfl | rfl | rfl | rfl | rfl | rfl | rfl | rfl | rfl | rfl | rfl <;> first | rfl | (apply hm; simp)
  have HN : Hid (Blk w nb 72 N) := hN
  clear hm hown hN
  go_region_law
    ((refine step_append_lies _ (by rfl) (.tmp 33) (.tmp 37) 67 (by rfl) base 83 i0 zero83 19 224 Yba.underlying67 hi hz0 hz1 hz2 rfl (by decide) sv n xs (by simp [Act.eval, Act.put]) (by exact (HO.out.alloc _).alloc _) ⟨w.heap.size + 1, 0, none⟩ 1 1
        [Value.string to, m0, .string nm, .int .u64 inc, .string ad, m4, m5, m6, m7, m8, m9, m10, m11, m12, m13, m14, m15, m16, m17] (by simp [Act.eval, Act.put]) rfl (by exact news_env _ _ #[Value.string to, m0, .string nm, .int .u64 inc, .string ad, m4, m5, m6, m7, m8, m9, m10, m11, m12, m13, m14, m15, m16, m17]) HM.out (by decide) (by unfold maxLen; omega) (by omega) (by simp; omega) (w.heap.size + 1 + 1) (by simp) ?_; intro g cap w1 hown1 hgrow hat hlt1; obtain ⟨k1, k2⟩ := after_append HO.out HN.out hgrow; have kc := k1.cell; have kf := k1.frozen; have mc := k2.cell; have KN : Hid (Blk w1 nb 72 N) := k1; clear k1 k2))
  all_goals (go_end0; exact ⟨rfl, send_fin HO.out HN.out hbase (by assumption) (by assumption)⟩)
/-- What Group reads as in a message that sendBare sends. -/
def grp (st gr : ByteArray) (m16 : Value) : Value := if (st.toList == [106, 111, 105, 110, 105, 110, 103]) = true then m16 else .string gr

theorem sendBare_any (base nb n : Nat) (N : Array Value) (nm ad st gr to : ByteArray) (inc : Int) (sv : Value) (xs : List Value)
    (m0 m1 m2 m3 m4 m5 m6 m7 m8 m9 m10 m11 m12 m13 m14 m15 m16 m17 : Value) (w : World)
    (hN : Blk w nb 72 N) (hbase : base ≤ nb)
    (h0 : N[0]? = some (.string nm)) (h1 : N[1]? = some (.int .u64 inc)) (h2 : N[2]? = some (.string ad)) (h4 : N[4]? = some (.string st)) (h20 : N[20]? = some (.string gr)) (h61 : N[61]? = some sv)
    (hown : w.ownsRow base 83 19 sv n xs) (hn : n ≤ 100000)
    (hm : ∀ u ∈ [m0, m4, m5, m6, m7, m8, m9, m10, m11, m12, m13, m14, m15, m16, m17], u.oneCell' = true) :
    Calls Yba.prog 27 #[.pointer (some ⟨nb, 0, none⟩), .string to, .agg #[m0, m1, m2, m3, m4, m5, m6, m7, m8, m9, m10, m11, m12, m13, m14, m15, m16, m17]] w fun e w' => e = .returned (.tuple #[]) ∧
      ∃ sv', Blk w' nb 72 (N.setIfInBounds 61 sv') ∧ w'.ownsRow base 83 19 sv' (n + 1) (xs ++ [.string to, m0, .string nm, .int .u64 inc, .string ad, m4, m5, m6, m7, m8, m9, m10, m11, m12, m13, m14, m15, grp st gr m16, m17]) ∧
        Kept (fun k => k < base ∨ (k ≠ nb ∧ ∀ c, w.heap[k]? ≠ some (.cells c 83 (0, 0)))) w w' := by
  by_cases hst : (st.toList == [106, 111, 105, 110, 105, 110, 103]) = true
  · have e : grp st gr m16 = m16 := by unfold grp; rw [if_pos hst]
    rw [e]
    exact sendBare_joining base nb n N nm ad st gr to inc sv xs m0 m1 m2 m3 m4 m5 m6 m7 m8 m9 m10 m11 m12 m13 m14 m15 m16 m17 w hN hbase h0 h1 h2 h4 h20 h61 hown hn hm hst
  · have e : grp st gr m16 = .string gr := by unfold grp; rw [if_neg hst]
    rw [e]
    exact sendBare_in base nb n N nm ad st gr to inc sv xs m0 m1 m2 m3 m4 m5 m6 m7 m8 m9 m10 m11 m12 m13 m14 m15 m16 m17 w hN hbase h0 h1 h2 h4 h20 h61 hown hn
      (fun u hu => hm u (by simp only [List.mem_cons, List.not_mem_nil, or_false] at hu ⊢; rcases hu with h | h | h | h | h | h | h | h | h | h | h | h | h | h <;> simp [h])) (by simpa using hst)
end Go.Proofs.Ybulkcdnw
