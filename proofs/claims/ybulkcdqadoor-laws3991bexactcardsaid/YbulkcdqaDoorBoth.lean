/-
  header and the model side by side: one plain function answers for both; bytes.Equal.
-/
import Derived.Test.YbulkcdqaDoorModel
import Derived.Test.YbulkcdqaDoorInfl
import Derived.Laws.IdiomStrings
namespace Go.Proofs.YbulkcdqaDoor
open Go.RowKit
set_option maxRecDepth 100000
set_option linter.unusedSimpArgs false
set_option linter.unusedVariables false

/-- What header and the model answer: the error's number; the place. -/
def mdl (l : List Int) (p : Int) : Int × Int :=
  if l.length < 2 then (1, p)
  else if unsound (l.getD 0 0) (l.getD 1 0) = true then (2, p)
  else if bits BinOp.and IntKind.u8 (l.getD 1 0) 32 = 0 then (0, 2)
  else if l.length < 6 then (1, 2)
  else if (l.getD 2 0 * 16777216 + l.getD 3 0 * 65536 + l.getD 4 0 * 256 + l.getD 5 0 != 1) = true then (3, 2)
  else (0, 6)

/-- The error of a number. -/
def errOf (e0 e1 e2 : Value) (k : Int) : Value := if k = 0 then .nilIface else if k = 1 then e0 else if k = 2 then e1 else e2

/-- The bytes l lie from b, 0 on. -/
def Has (w : World) (b : Nat) (l : List Int) : Prop := ∀ j, j < l.length → w.cell? ⟨b, j, none⟩ = some (.int .u8 (l.getD j 0))
def Byt (l : List Int) : Prop := ∀ j, j < l.length → 0 ≤ l.getD j 0 ∧ l.getD j 0 ≤ 255

theorem model_any (g cap : Nat) (l : List Int) (p : Int) (w : World) (hlm : l.length ≤ 10000) (hh : Has w g l) (hb : Byt l) :
    Calls Ybad.prog 6 #[.slice (some ⟨g, 0, none⟩) l.length cap, .int .i64 p] w fun e w' => e = .returned (.tuple #[.int .i64 (mdl l p).1, .int .i64 (mdl l p).2]) ∧ Kept (fun _ => True) w w' := by
  unfold mdl
  split
  · exact model_short _ _ _ _ _ (by assumption)
  · rename_i h2
    have hl : 2 ≤ l.length := by omega
    have c0 := hh 0 (by omega)
    have c1 : w.cell? ⟨g, 0 + 1, none⟩ = _ := hh 1 (by omega)
    obtain ⟨x0, x1⟩ := hb 0 (by omega)
    obtain ⟨y0, y1⟩ := hb 1 (by omega)
    split
    · exact model_bad g 0 _ _ _ _ _ _ hl hlm c0 c1 x0 x1 y0 y1 (by assumption)
    · rename_i hu
      have hu' : unsound (l.getD 0 0) (l.getD 1 0) = false := by simpa using hu
      split
      · exact model_plain g 0 _ _ _ _ _ _ hl hlm c0 c1 x0 x1 y0 y1 hu' (by assumption)
      · rename_i hd
        have hd' : (bits BinOp.and IntKind.u8 (l.getD 1 0) 32 != 0) = true := by simpa using hd
        split
        · exact model_cut g 0 _ _ _ _ _ _ hl hlm c0 c1 x0 x1 y0 y1 hu' hd' (by assumption)
        · rename_i h6
          have c2 : w.cell? ⟨g, 0 + 2, none⟩ = some (.int .u8 (l.getD 2 0)) := by rw [Nat.zero_add]; exact hh 2 (by omega)
          have c3 : w.cell? ⟨g, 0 + 3, none⟩ = some (.int .u8 (l.getD 3 0)) := by rw [Nat.zero_add]; exact hh 3 (by omega)
          have c4 : w.cell? ⟨g, 0 + 4, none⟩ = some (.int .u8 (l.getD 4 0)) := by rw [Nat.zero_add]; exact hh 4 (by omega)
          have c5 : w.cell? ⟨g, 0 + 5, none⟩ = some (.int .u8 (l.getD 5 0)) := by rw [Nat.zero_add]; exact hh 5 (by omega)
          split
          · exact model_dict g 0 _ _ _ _ _ _ hl hlm c0 c1 x0 x1 y0 y1 hu' hd' (by omega) _ _ _ _ c2 c3 c4 c5 (hb 2 (by omega)) (hb 3 (by omega)) (hb 4 (by omega)) (hb 5 (by omega)) (by assumption)
          · rename_i hs
            exact model_empty g 0 _ _ _ _ _ _ hl hlm c0 c1 x0 x1 y0 y1 hu' hd' (by omega) _ _ _ _ c2 c3 c4 c5 (hb 2 (by omega)) (hb 3 (by omega)) (hb 4 (by omega)) (hb 5 (by omega)) (by simpa using hs)

theorem inflC_at (v p : Value) (j : Nat) (hj : j < 10) : (inflC v p)[j]? = #[v, p, .int .u64 0, .int .u64 0, .slice none 0 0, .int .i64 0, .int .i64 0, .slice none 0 0, .slice none 0 0, .slice none 0 0][j]? := by
  unfold inflC
  exact Array.getElem?_append_left hj
theorem inflS1 (v p q : Value) : ((inflC v p).setIfInBounds 1 q)[1]? = some q := by
  rw [Array.getElem?_setIfInBounds, if_pos rfl, if_pos]
  have h : (inflC v p)[1]? = some p := inflC_at v p 1 (by decide)
  exact (Array.getElem?_eq_some_iff.1 h).1
theorem inflS (v p q : Value) (j : Nat) (hj : j ≠ 1) (hj' : j < 10) : ((inflC v p).setIfInBounds 1 q)[j]? = #[v, p, .int .u64 0, .int .u64 0, .slice none 0 0, .int .i64 0, .int .i64 0, .slice none 0 0, .slice none 0 0, .slice none 0 0][j]? := by
  rw [Array.getElem?_setIfInBounds, if_neg (by omega), inflC_at v p j hj']
theorem inflSame (v p : Value) : (inflC v p).setIfInBounds 1 p = inflC v p := by
  apply Array.ext_getElem?
  intro i
  rw [Array.getElem?_setIfInBounds]
  split
  · rename_i h
    subst h
    have h : (inflC v p)[1]? = some p := inflC_at v p 1 (by decide)
    rw [if_pos (Array.getElem?_eq_some_iff.1 h).1, h]
  · rfl

theorem header_any (d g cap : Nat) (l : List Int) (p : Int) (w : World) (hN : Blk w d 31 (inflC (.slice (some ⟨g, 0, none⟩) l.length cap) (.int .i64 p))) (e0 e1 e2 : Value) (g0 : w.cell? ⟨0, 0, none⟩ = some e0) (g1 : w.cell? ⟨1, 0, none⟩ = some e1) (g2 : w.cell? ⟨2, 0, none⟩ = some e2)
    (h4 : 4 ≤ d) (hg : g < w.heap.size) (hgd : g ≠ d) (hlc : l.length ≤ cap) (hcm : cap ≤ 9223372036854775807) (hlm : l.length ≤ 10000) (hh : Has w g l) (hb : Byt l) :
    Calls Ybad.prog 5 #[.pointer (some ⟨d, 0, none⟩)] w fun e w' => e = .returned (errOf e0 e1 e2 (mdl l p).1) ∧ Blk w' d 31 ((inflC (.slice (some ⟨g, 0, none⟩) l.length cap) (.int .i64 p)).setIfInBounds 1 (.int .i64 (mdl l p).2)) ∧ Kept (fun k => k ≠ d) w w' := by
  have hdl := hN.lt
  have n0 : (inflC (.slice (some ⟨g, 0, none⟩) l.length cap) (.int .i64 p))[0]? = some (.slice (some ⟨g, 0, none⟩) l.length cap) := inflC_at _ _ 0 (by decide)
  have n1 : (inflC (.slice (some ⟨g, 0, none⟩) l.length cap) (.int .i64 p))[1]? = some (.int .i64 p) := inflC_at _ _ 1 (by decide)
  have hc : w.cell? ⟨d, 0, none⟩ = some (.slice (some ⟨g, 0, none⟩) l.length cap) := (hN.cell 0).trans n0
  unfold mdl
  split
  · refine (header_short d _ _ _ e0 w hc (by assumption) g0).mono ?_
    rintro e w' ⟨rfl, rfl⟩
    exact ⟨rfl, by rw [inflSame]; exact hN, Kept.refl _ _⟩
  · rename_i h2
    have hl : 2 ≤ l.length := by omega
    have c0 := hh 0 (by omega)
    have c1 : w.cell? ⟨g, 0 + 1, none⟩ = _ := hh 1 (by omega)
    obtain ⟨x0, x1⟩ := hb 0 (by omega)
    obtain ⟨y0, y1⟩ := hb 1 (by omega)
    split
    · refine (header_bad d g 0 _ _ _ _ e1 w hc hl hlm c0 c1 x0 x1 y0 y1 g1 hg hdl (by omega) (by assumption)).mono ?_
      rintro e w' ⟨rfl, hk⟩
      exact ⟨rfl, by rw [inflSame]; exact hN.kept hk trivial, hk.mono fun _ _ _ => trivial⟩
    · rename_i hu
      have hu' : unsound (l.getD 0 0) (l.getD 1 0) = false := by simpa using hu
      split
      · exact header_plain d g 0 _ _ _ _ _ w hN n0 _ n1 hl hlm c0 c1 x0 x1 y0 y1 hg (by omega) hu' (by assumption)
      · rename_i hd
        have hd' : (bits BinOp.and IntKind.u8 (l.getD 1 0) 32 != 0) = true := by simpa using hd
        split
        · exact header_cut d g 0 _ _ _ _ _ w hN n0 _ n1 h4 hl hlm c0 c1 x0 x1 y0 y1 hg (by omega) hu' hd' (by assumption) e0 g0
        · rename_i h6
          have c2 : w.cell? ⟨g, 0 + 2, none⟩ = some (.int .u8 (l.getD 2 0)) := by rw [Nat.zero_add]; exact hh 2 (by omega)
          have c3 : w.cell? ⟨g, 0 + 3, none⟩ = some (.int .u8 (l.getD 3 0)) := by rw [Nat.zero_add]; exact hh 3 (by omega)
          have c4 : w.cell? ⟨g, 0 + 4, none⟩ = some (.int .u8 (l.getD 4 0)) := by rw [Nat.zero_add]; exact hh 4 (by omega)
          have c5 : w.cell? ⟨g, 0 + 5, none⟩ = some (.int .u8 (l.getD 5 0)) := by rw [Nat.zero_add]; exact hh 5 (by omega)
          split
          · exact header_dict d g 0 _ _ _ _ _ w hN n0 _ n1 h4 hl hlm c0 c1 x0 x1 y0 y1 hg (by omega) hu' hd' (by omega) hlc hcm _ _ _ _ c2 c3 c4 c5 (hb 2 (by omega)) (hb 3 (by omega)) (hb 4 (by omega)) (hb 5 (by omega)) e2 g2 hgd (by assumption)
          · rename_i hs
            exact header_empty d g 0 _ _ _ _ _ w hN n0 _ n1 h4 hl hlm c0 c1 x0 x1 y0 y1 hg (by omega) hu' hd' (by omega) hlc hcm _ _ _ _ c2 c3 c4 c5 (hb 2 (by omega)) (hb 3 (by omega)) (hb 4 (by omega)) (hb 5 (by omega)) e2 g2 hgd (by simpa using hs)

/-- 'string(b)' of these bytes. -/
theorem conv_bytes (g cap : Nat) (l : List Int) (w : World) (hh : Has w g l) (hb : Byt l) :
    (convert 22 9 (.slice (some ⟨g, 0, none⟩) l.length cap)).run Ybad.prog w = .ok (.string ⟨(l.map fun z => UInt8.ofNat z.toNat).toArray⟩) w := by
  have h := run_convert_bytes_back (P := Ybad.prog) w 22 9 5 ⟨g, 0, none⟩ cap (l.map fun z => UInt8.ofNat z.toNat) Ybad.underlying22 Ybad.underlying5 Ybad.underlying9 (fun j hj => by
    have hj' : j < l.length := by simpa using hj
    rw [Addr.add_lit, Nat.zero_add, hh j hj']
    obtain ⟨a, b⟩ := hb j hj'
    have e : l.getD j 0 = l[j] := by simp [List.getD, hj']
    rw [e] at a b ⊢
    simp
    omega)
  simpa using h

set_option maxHeartbeats 1000000 in
theorem equal_any (g1 c1 g2 c2 : Nat) (l : List Int) (w : World) (h1 : Has w g1 l) (h2 : Has w g2 l) (hb : Byt l) :
    Calls Ybad.prog 7 #[.slice (some ⟨g1, 0, none⟩) l.length c1, .slice (some ⟨g2, 0, none⟩) l.length c2] w fun e w' => e = .returned (.bool true) ∧ w = w' := by
  have q1 := conv_bytes g1 c1 l w h1 hb
  have q2 := conv_bytes g2 c2 l w h2 hb
  generalize (⟨(l.map fun z => UInt8.ofNat z.toNat).toArray⟩ : ByteArray) = S at q1 q2
  clear h1 h2 hb
  go_enter Ybad.func7, Ybad.ntmps7
  go_wp2
  go_ret
  exact ⟨rfl, rfl⟩
set_option maxHeartbeats 1000000 in
theorem equal_nil (w : World) :
    Calls Ybad.prog 7 #[.slice none 0 0, .slice none 0 0] w fun e w' => e = .returned (.bool true) ∧ w = w' := by
  have q1 : (convert 22 9 (.slice none 0 0)).run Ybad.prog w = .ok (.string ⟨#[]⟩) w := by
    rw [run_convert_bytes_string w 22 9 5 none 0 0 Ybad.underlying22 Ybad.underlying5 Ybad.underlying9]
    rfl
  go_enter Ybad.func7, Ybad.ntmps7
  go_wp2
  go_ret
  exact ⟨rfl, rfl⟩
end Go.Proofs.YbulkcdqaDoor
