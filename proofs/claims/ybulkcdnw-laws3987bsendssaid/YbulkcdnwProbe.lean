/-
  (*Node).probe by its contract.
-/
import Derived.Test.YbulkcdnwSend
import Derived.Test.YbulkcdnwMem
import Derived.Deep.LoopGhost
import Derived.BigQuiet
import Derived.Deep.QuietTactic
namespace Go.Proofs.Ybulkcdnw
open Go.RowKit
set_option maxRecDepth 100000
set_option linter.unusedSimpArgs false
set_option linter.unusedVariables false
attribute [local go_sem ↓] Go.wp_at_zero Go.wp_at_succ

/-- The probe's envelope to m, as its nineteen cells. -/
def envOf (nm : ByteArray) (inc : Int) (ad st gr : ByteArray) (num : Int) (m : Mem) : List Value :=
  [.string m.ad, .string ⟨#[112, 114, 111, 98, 101]⟩, .string nm, .int .u64 inc, .string ad, .slice none 0 0, .pointer none, .int .u64 num, .pointer none, .pointer none, .pointer none, .pointer none, .pointer none, .pointer none, .pointer none, .slice none 0 0, .map none, grp st gr (.string ⟨#[]⟩), .pointer none]

/-- Is m another than self? -/
def other (nm : ByteArray) (inc : Int) (m : Mem) : Bool := !(m.nm.toList == nm.toList && m.inc == inc)
def others (nm : ByteArray) (inc : Int) (ms : List Mem) : List Mem := ms.filter (other nm inc)

/-- What holds at the head of round k. -/
def PInv (w wr : World) (base nb n : Nat) (N : Array Value) (xs : List Value) (nm : ByteArray) (inc : Int) (ad st gr : ByteArray) (num : Int) (l : List Mem) : Prop :=
  ∃ sv', Blk wr nb 72 (N.setIfInBounds 61 sv') ∧ wr.ownsRow base 83 19 sv' (n + (others nm inc l).length) (xs ++ (others nm inc l).flatMap (envOf nm inc ad st gr num)) ∧
    Kept (fun k => k < base ∨ (k ≠ nb ∧ ∀ c, w.heap[k]? ≠ some (.cells c 83 (0, 0)))) w wr

theorem Blk.ne {w : World} {a b : Nat} {t u : TypeId} {A B : Array Value} (ha : Blk w a t A) (hb : Blk w b u B) (h : t ≠ u) : a ≠ b := by
  intro e
  subst e
  have := (show w.heap[a]? = _ from ha).symm.trans hb
  simp at this
  exact h this.2

theorem others_snoc (nm : ByteArray) (inc : Int) (l : List Mem) (m : Mem) : others nm inc (l ++ [m]) = others nm inc l ++ (if other nm inc m = true then [m] else []) := by
  unfold others
  rw [List.filter_append]
  congr 1
  by_cases h : other nm inc m = true <;> simp [h]

theorem take_snoc_mem (ms : List Mem) (k : Nat) (hk : k < ms.length) : ms.take (k + 1) = ms.take k ++ [ms.getD k mem0] := by
  rw [List.take_succ_eq_append_getElem hk]
  simp [List.getD, hk]

/-- A round in which m is left out: a new block and draws alone. -/
theorem probe_miss {w wr : World} {base nb n nq : Nat} {N C : Array Value} {xs : List Value} {nm ad st gr : ByteArray} {inc num : Int} {l : List Mem} {m : Mem} (h : PInv w wr base nb n N xs nm inc ad st gr num l) (hm : other nm inc m = false) :
    PInv w ((wr.alloc (.cells C 35)).drewN nq) base nb n N xs nm inc ad st gr num (l ++ [m]) := by
  obtain ⟨sv', hb, ho, hk⟩ := h
  refine ⟨sv', hb.alloc _, ?_, ?_⟩
  · rw [others_snoc, if_neg (by simp [hm]), List.append_nil]
    exact ho.alloc _
  · have := hk.alloc (.cells C 35)
    exact ⟨this.os, this.tape, this.output, this.size, this.block⟩

/-- A round in which m is sent a probe. -/
theorem probe_hit {w wr w1 : World} {base nb n nq : Nat} {N C : Array Value} {xs : List Value} {nm ad st gr : ByteArray} {inc num : Int} {l : List Mem} {m : Mem} {sv' sv2 : Value}
    (hk : Kept (fun k => k < base ∨ (k ≠ nb ∧ ∀ c, w.heap[k]? ≠ some (.cells c 83 (0, 0)))) w wr) (hm : other nm inc m = true)
    (hb2 : Blk w1 nb 72 ((N.setIfInBounds 61 sv').setIfInBounds 61 sv2))
    (ho2 : w1.ownsRow base 83 19 sv2 (n + (others nm inc l).length + 1) (xs ++ (others nm inc l).flatMap (envOf nm inc ad st gr num) ++ envOf nm inc ad st gr num m))
    (hk2 : Kept (fun k => k < base ∨ (k ≠ nb ∧ ∀ c, ((wr.alloc (.cells C 35)).drewN nq).heap[k]? ≠ some (.cells c 83 (0, 0)))) ((wr.alloc (.cells C 35)).drewN nq) w1) :
    PInv w w1 base nb n N xs nm inc ad st gr num (l ++ [m]) := by
  refine ⟨sv2, ?_, ?_, ?_⟩
  · rw [Array.setIfInBounds_setIfInBounds] at hb2
    exact hb2
  · rw [others_snoc, if_pos hm]
    simp only [List.length_append, List.length_cons, List.length_nil, List.flatMap_append, List.flatMap_cons, List.flatMap_nil, List.append_nil, Nat.zero_add]
    rw [← List.append_assoc, ← Nat.add_assoc]
    exact ho2
  · have h1 := hk.alloc (.cells C 35)
    refine ⟨hk2.os.trans h1.os, hk2.tape.trans h1.tape, hk2.output.trans h1.output, Nat.le_trans h1.size hk2.size, fun k hlt hp => ?_⟩
    have e1 := h1.block k hlt hp
    refine (hk2.block k (Nat.lt_of_lt_of_le hlt h1.size) ?_).trans e1
    rcases hp with hp | ⟨hp1, hp2⟩
    · exact Or.inl hp
    · exact Or.inr ⟨hp1, fun c => by rw [show ((wr.alloc (.cells C 35)).drewN nq).heap[k]? = _ from e1]; exact hp2 c⟩

theorem probe_cells {wr w1 : World} {base nb nq : Nat} {N : Array Value} {a b z d num : Value} {sv' sv2 : Value} (hb1 : Blk wr nb 72 (N.setIfInBounds 61 sv')) (h16 : N[16]? = some num)
    (hb2 : Blk w1 nb 72 ((N.setIfInBounds 61 sv').setIfInBounds 61 sv2))
    (hk2 : Kept (fun k => k < base ∨ (k ≠ nb ∧ ∀ c, ((wr.alloc (.cells #[a, b, z, d] 35)).drewN nq).heap[k]? ≠ some (.cells c 83 (0, 0)))) ((wr.alloc (.cells #[a, b, z, d] 35)).drewN nq) w1) :
    w1.cell? ⟨wr.heap.size, 2, none⟩ = some z ∧ w1.cell? ⟨nb, 16, none⟩ = some num := by
  constructor
  · have hn : Blk ((wr.alloc (.cells #[a, b, z, d] 35)).drewN nq) wr.heap.size 35 #[a, b, z, d] := Blk.new _ _ _
    have := hb1.lt
    rw [(hn.kept hk2 (Or.inr ⟨by omega, fun c' e => by rw [show ((wr.alloc (.cells #[a, b, z, d] 35)).drewN nq).heap[wr.heap.size]? = _ from hn] at e; simp at e⟩)).cell]
    rfl
  · rw [hb2.cell]
    simpa using h16

set_option maxHeartbeats 1000000 in
theorem probe_any (base nb mb n : Nat) (N M : Array Value) (ms : List Mem) (nm ad st gr : ByteArray) (inc num : Int) (sv : Value) (xs : List Value) (w : World)
    (hN : Blk w nb 72 N) (hbase : base ≤ nb) (hM : Blk w mb 35 M) (hMs : M.toList = memCells ms)
    (h0 : N[0]? = some (.string nm)) (h1 : N[1]? = some (.int .u64 inc)) (h2 : N[2]? = some (.string ad)) (h4 : N[4]? = some (.string st)) (h20 : N[20]? = some (.string gr)) (h61 : N[61]? = some sv)
    (h16 : N[16]? = some (.int .u64 num)) (h17 : N[17]? = some (.slice (some ⟨mb, 0, none⟩) ms.length ms.length))
    (hown : w.ownsRow base 83 19 sv n xs) (hn : n ≤ 1000) (hl : ms.length ≤ 1024) :
    Calls Yba.prog 14 #[.pointer (some ⟨nb, 0, none⟩)] w fun e w' => e = .returned (.tuple #[]) ∧
      ∃ sv', Blk w' nb 72 (N.setIfInBounds 61 sv') ∧ w'.ownsRow base 83 19 sv' (n + (others nm inc ms).length) (xs ++ (others nm inc ms).flatMap (envOf nm inc ad st gr num)) ∧
        Kept (fun k => k < base ∨ (k ≠ nb ∧ ∀ c, w.heap[k]? ≠ some (.cells c 83 (0, 0)))) w w' := by
  have hlt := hN.lt
  have c16 : w.cell? ⟨nb, 16, none⟩ = some (.int .u64 num) := (hN.cell 16).trans h16
  have c17 : w.cell? ⟨nb, 17, none⟩ = some (.slice (some ⟨mb, 0, none⟩) ms.length ms.length) := (hN.cell 17).trans h17
  have hq := run_neq33
  go_enter Yba.func14, Yba.ntmps14
  go_wp2
  have HN : Hid (Blk w nb 72 N) := hN
  have HM : Hid (Blk w mb 35 M ∧ M.toList = memCells ms) := ⟨hM, hMs⟩
  have HP : Hid (PInv w w base nb n N xs nm inc ad st gr num []) := ⟨sv, by rw [show N.setIfInBounds 61 sv = N from by apply Array.ext_getElem?; intro i; rw [Array.getElem?_setIfInBounds]; split; (subst_vars; split; exact h61.symm; (rw [Array.getElem?_eq_none (by omega)] at h61; cases h61)); rfl]; exact hN, by simpa [others] using hown, Kept.refl _ _⟩
  have hne : mb ≠ nb := hM.ne hN (by decide)
  have HQ : Hid (∀ c, w.heap[mb]? ≠ some (.cells c 83 (0, 0))) := fun c e => by rw [show w.heap[mb]? = _ from hM] at e; simp at e
  clear hN hM hMs hown
  go_loopw [10] (fun i wr => ∃ k : Nat, k ≤ ms.length ∧ i = .int .i64 k ∧ Hid (PInv w wr base nb n N xs nm inc ad st gr num (ms.take k))) (fun i _ => ms.length - (intOf i).toNat)
  case atStart => exact ⟨0, Nat.zero_le _, rfl, HP⟩
  case round =>
    obtain ⟨k, hk, rfl, hinv⟩ := hrel
    obtain ⟨sv', hb1, ho1, hkp⟩ := hinv.out
    have hM1 := HM.out.1.kept hkp (Or.inr ⟨hne, HQ.out⟩)
    have d0 : wr.cell? ⟨nb, 0, none⟩ = some (.string nm) := by rw [hb1.cell]; simpa using h0
    have d1 : wr.cell? ⟨nb, 1, none⟩ = some (.int .u64 inc) := by rw [hb1.cell]; simpa using h1
    have d16 : wr.cell? ⟨nb, 16, none⟩ = some (.int .u64 num) := by rw [hb1.cell]; simpa using h16
    have hlt' := hb1.lt
    have hltm := hM1.lt
    by_cases hlt2 : k < ms.length
    · obtain ⟨m, hm⟩ : ∃ m, m = ms.getD k mem0 := ⟨_, rfl⟩
      have hcm : ∀ j, j < 4 → wr.cell? ⟨mb, k * 4 + j, none⟩ = m.cells[j]? := fun j hj => by
        rw [hM1.cell, ← Array.getElem?_toList, HM.out.2, memCells_at ms k j hlt2 hj, hm]
      have e0 : wr.cell? ⟨mb, k * 4, none⟩ = some (.string m.nm) := hcm 0 (by decide)
      have e1 : wr.cell? ⟨mb, k * 4 + 1, none⟩ = some (.int .u64 m.inc) := hcm 1 (by decide)
      have e2 : wr.cell? ⟨mb, k * 4 + 1 + 1, none⟩ = some (.string m.ad) := hcm 2 (by decide)
      have e3 : wr.cell? ⟨mb, k * 4 + 1 + 1 + 1, none⟩ = some (.string m.tk) := hcm 3 (by decide)
      have HS : Hid (m = ms.getD k mem0) := hm
      have HB : Hid (Blk wr nb 72 (N.setIfInBounds 61 sv')) := hb1
      have HO1 : Hid (wr.ownsRow base 83 19 sv' (n + (others nm inc (ms.take k)).length) (xs ++ (others nm inc (ms.take k)).flatMap (envOf nm inc ad st gr num))) := ho1
      have h61' : Hid ((N.setIfInBounds 61 sv')[61]? = some sv') := by
        show (N.setIfInBounds 61 sv')[61]? = some sv'
        rw [Array.getElem?_setIfInBounds, if_pos rfl, if_pos (by have := Array.getElem?_eq_some_iff.1 h61; obtain ⟨h, _⟩ := this; exact h)]
      have hlen' : Hid (n + (others nm inc (ms.take k)).length ≤ 100000) := by
        show n + (others nm inc (ms.take k)).length ≤ 100000
        have a1 : (others nm inc (ms.take k)).length ≤ (ms.take k).length := List.length_filter_le _ _
        have a2 : (ms.take k).length ≤ k := List.length_take_le _ _
        omega
      have HK : Hid (Kept (fun k => k < base ∨ (k ≠ nb ∧ ∀ c, w.heap[k]? ≠ some (.cells c 83 (0, 0)))) w wr) := hkp
      clear hkp
      clear hm hcm hb1 hM1 ho1
      go_wp2
      go_quiet (fail)
      go_wp2
      · have hoth : Hid (other nm inc m = true) := by
          have h : (!m.nm.toList == nm.toList) = true ∨ (!m.inc == inc) = true := by assumption
          unfold other
          rw [Bool.not_and]
          exact Bool.or_eq_true_iff.2 h
        go_region_held3 (fun w' => w'.cell? ⟨wr.heap.size, 2, none⟩ = some (.string m.ad) ∧ w'.cell? ⟨nb, 16, none⟩ = some (.int .u64 num)) (simp [go_sem, *])
          ((go_at_call 27; refine (sendBare_any base nb (n + (others nm inc (ms.take k)).length) (N.setIfInBounds 61 sv') nm ad st gr m.ad inc sv' (xs ++ (others nm inc (ms.take k)).flatMap (envOf nm inc ad st gr num)) _ _ _ _ _ _ _ _ _ _ _ _ _ _ _ _ _ _ _ (by exact HB.out.alloc _) hbase (by simpa using h0) (by simpa using h1) (by simpa using h2) (by simpa using h4) (by simpa using h20) (by simpa using h61'.out) (by exact HO1.out.alloc _) (by have := hlen'.out; omega) (by simp [Value.oneCell'])).mono ?_; rintro e w1 ⟨rfl, sv2, hb2, ho2, hk2⟩; obtain ⟨q1, q2⟩ := probe_cells HB.out h16 hb2 hk2; have HR : Hid (PInv w w1 base nb n N xs nm inc ad st gr num (ms.take k ++ [m])) := probe_hit HK.out hoth.out hb2 ho2 hk2; clear hb2 ho2 hk2))
        go_wp2
        go_roundw
        case rel => exact ⟨k + 1, by omega, by go_num, by rw [take_snoc_mem ms k hlt2, ← HS.out]; assumption⟩
        case measure => simp [intOf]; omega
      · have hoth : other nm inc m = false := by
          have h : (!m.nm.toList == nm.toList) = false ∧ (!m.inc == inc) = false := by assumption
          unfold other
          rw [Bool.not_and]
          exact Bool.or_eq_false_iff.2 h
        go_roundw
        case rel => exact ⟨k + 1, by omega, by go_num, by rw [take_snoc_mem ms k hlt2, ← HS.out]; exact probe_miss hinv.out hoth⟩
        case measure => simp [intOf]; omega
    · go_wp2
      go_end0
      obtain rfl : k = ms.length := by omega
      rw [List.take_length] at hinv
      exact ⟨rfl, hinv.out⟩
end Go.Proofs.Ybulkcdnw
