/-
  The row of membership.LawS3987BSends: the frame as the kit's skeleton lays it, nine parameters, one of them a slice of structs.
-/
import Derived.Test.YbulkcdnwB1
import Derived.WalkKit
import Derived.ProofKit
import Derived.OpenShut
import Derived.ShutString
import Derived.ChangeOld
import Derived.Below
import Derived.Deep.Slices
namespace Go.Proofs.Ybulkcdnw.lawS3987BSends
open Go.ChangeShapes Go.WideShapes Go.ChangeAt Go.RowKit Go.Deep
open Go.ChangeMaps (open_string shut_string)
set_option linter.unusedVariables false
set_option linter.unusedSimpArgs false
set_option maxRecDepth 100000

theorem own : ownKnob Yba.prog.godebug = none := by kernel_rfl
theorem laidOut : laidOutB Yba.prog = true := by kernel_rfl
theorem cells88 : Yba.prog.cellsOf 88 = 4 := by kernel_rfl
theorem cells9 : Yba.prog.cellsOf 9 = 1 := by kernel_rfl
theorem cells22 : Yba.prog.cellsOf 22 = 1 := by kernel_rfl

/-- More than 1024 members: true at once. -/
theorem walkLong (sn : ByteArray) (si : Int) (sa : ByteArray) (sp : Int) (gr : ByteArray) (st num : Int) (ao : Option Addr) (L cap : Nat) (pr : Int) (w : World) (hL : ¬ L ≤ 1024) (hm : L ≤ maxLen) :
    Calls Yba.prog 4 #[.string sn, .int .u64 si, .string sa, .int .u8 sp, .string gr, .int .u8 st, .int .u64 num, .slice ao L cap, .int .u8 pr] w fun e w' => e = .returned (.bool true) ∧ Below w.heap.size w w' := by
  unfold maxLen at hm
  have h : (1024 : Int) < (L : Int) := by omega
  go_enter Yba.func4, Yba.ntmps4
  go_wp2
  go_ret
  exact ⟨rfl, Below.refl _ _⟩

/-- What the walk is told of the slice of members that came in. -/
def Rows4 (w : World) (ao : Option Addr) (len : Nat) (ms : List Mem) : Prop :=
  ms.length = len ∧ (0 < ms.length → ∃ b off, ao = some ⟨b, off, none⟩ ∧ b < w.heap.size ∧ ∀ k j, k < ms.length → j < 4 → w.cell? ⟨b, off + k * 4 + j, none⟩ = (ms.getD k mem0).cells[j]?)

theorem rows_of {H : Type} {enc : TypeId × Value → H} {W : World} {fuel : Nat} {ao : Option Addr} {len cap : Nat} {x : DataW H × List MemPlace}
    (h : DataW.trod enc Yba.prog W 0 (fun _ => true) true fuel 86 [.slice ao len cap] = some x) : len ≤ maxLen ∧ ∃ ms, Rows4 W ao len ms := by
  rcases open_slice Yba.underlying86 h with ⟨hcs, _⟩ | ⟨a, l, c, m, n, D, Pl, hcs, _, hl, hm, hmm, _, hx⟩
  · simp at hcs
    obtain ⟨rfl, rfl, rfl⟩ := hcs
    exact ⟨Nat.zero_le _, [], rfl, fun h => absurd h (Nat.lt_irrefl _)⟩
  · simp at hcs
    obtain ⟨rfl, rfl, rfl⟩ := hcs
    refine ⟨Nat.le_trans hl hm, ?_⟩
    simp only [if_true] at hmm
    rw [cells88] at hx
    have one : ∀ i, i < len → ∃ mm : Mem, ∀ j, j < 4 → W.cell? (a.add (i * 4 + j)) = mm.cells[j]? := fun i hi => by
      obtain ⟨cs', h1, h2⟩ := hx i (by omega)
      obtain ⟨_, hlen, hcell⟩ := World.cells?_some h1
      obtain ⟨xs, n', _, _, _, hxl, hf⟩ := DataW.trod_struct Yba.underlying88 h2
      match cs', hlen with
      | [c0, c1, c2, c3], _ =>
        have f0 := hf 0 _ rfl
        have f1 := hf 1 _ rfl
        have f2 := hf 2 _ rfl
        have f3 := hf 3 _ rfl
        match xs, hxl with
        | [x0, x1, x2, x3], _ =>
          simp [cells9, cells22] at f0 f1 f2 f3
          obtain ⟨s0, e0, _⟩ := DataW.trod_string Yba.underlying9 f0
          obtain ⟨n1, e1, _⟩ := DataW.trod_int Yba.underlying22 f1
          obtain ⟨s2, e2, _⟩ := DataW.trod_string Yba.underlying9 f2
          obtain ⟨s3, e3, _⟩ := DataW.trod_string Yba.underlying9 f3
          simp at e0 e1 e2 e3
          subst e0 e1 e2 e3
          refine ⟨⟨s0, n1, s2, s3⟩, fun j hj => ?_⟩
          rw [← add_add, hcell j hj]
          rfl
    have inh : Inhabited Mem := ⟨mem0⟩
    obtain ⟨f, hf⟩ := choose_lt (α := Mem) (n := len) (p := fun i mm => ∀ j, j < 4 → W.cell? (a.add (i * 4 + j)) = mm.cells[j]?) one
    refine ⟨(List.range len).map f, by simp, fun hpos => ?_⟩
    simp only [List.length_map, List.length_range] at hpos
    obtain ⟨b, off, spot⟩ := a
    have h00 : W.cell? (Addr.add ⟨b, off, spot⟩ 0) = some (.string (f 0).nm) := hf 0 hpos 0 (by decide)
    have hspot : spot = none := by simpa [Addr.add] using World.cell?_spot h00
    subst hspot
    refine ⟨b, off, rfl, ?_, fun k j hk hj => ?_⟩
    · have h0 : W.cell? ⟨b, off, none⟩ = some (.string (f 0).nm) := by simpa [Addr.add] using h00
      rcases Nat.lt_or_ge b W.heap.size with hlt | hge
      · exact hlt
      · rw [World.cell?, Array.getElem?_eq_none hge] at h0
        simp at h0
    · simp only [List.length_map, List.length_range] at hk
      have := hf k hk j hj
      rw [add_plain] at this
      rw [Nat.add_assoc, this]
      simp [List.getD, hk]

theorem u8_bounds {x : Int} (h : (Lit.int .u8 x).wf = true) : 0 ≤ x ∧ x ≤ 255 := by
  simp [Lit.wf, IntKind.min, IntKind.max, IntKind.signed, IntKind.bits] at h
  omega

set_option maxRecDepth 100000 in
theorem lifted (os : Os) (started : os.Started) (H : Type) (enc : TypeId × Value → H) :
    ReturnsInHanded {} Yba.checked os 4 .any (Rows.lawS3987BSendsSpec.pre6 enc Yba.prog Yba.f4 Rows.lawS3987BSendsRow.domain false) (Rows.lawS3987BSendsSpec.post enc Yba.prog Yba.f4 false true false false) := by
  refine returnsInHanded_of_change (C := Yba.checked) own started (by kernel_rfl) Yba.func4
    (ChangeSpec.witness6 (enc := enc) (C := Yba.checked) false ⟨#[], #[.string ⟨#[]⟩, .int .u64 0, .string ⟨#[]⟩, .int .u8 0, .string ⟨#[]⟩, .int .u8 0, .int .u64 0, .slice none 0 0, .int .u8 0], []⟩ 8 (by kernel_rfl) (by kernel_rfl) (by kernel_rfl) (by kernel_rfl)) ?_
  intro W base args ds gs before hval0 hW hcnd _
  have hval : ∀ (j : Nat) t v, Yba.f4.params[j]? = some t → args[j]? = some v → Value.okWide Yba.prog W .any base t v := hval0
  have hW' := hW
  obtain ⟨p, q, hA0, hV, rfl, hfz, hnd⟩ := hW
  have hA : DataW.TrodAll enc Yba.prog W 0 (fun _ => true) true Yba.f4.params.toList args.toList ds p := hA0
  rw [Yba.params4] at hA hval
  obtain ⟨v0, vs0, d0, ds0, p0, q0, hargs, rfl, rfl, h0, r0⟩ := trodAll_cons hA
  obtain ⟨v1, vs1, d1, ds1, p1, q1, rfl, rfl, rfl, h1, r1⟩ := trodAll_cons r0
  obtain ⟨v2, vs2, d2, ds2, p2, q2, rfl, rfl, rfl, h2, r2⟩ := trodAll_cons r1
  obtain ⟨v3, vs3, d3, ds3, p3, q3, rfl, rfl, rfl, h3, r3⟩ := trodAll_cons r2
  obtain ⟨v4, vs4, d4, ds4, p4, q4, rfl, rfl, rfl, h4, r4⟩ := trodAll_cons r3
  obtain ⟨v5, vs5, d5, ds5, p5, q5, rfl, rfl, rfl, h5, r5⟩ := trodAll_cons r4
  obtain ⟨v6, vs6, d6, ds6, p6, q6, rfl, rfl, rfl, h6, r6⟩ := trodAll_cons r5
  obtain ⟨v7, vs7, d7, ds7, p7, q7, rfl, rfl, rfl, h7, r7⟩ := trodAll_cons r6
  obtain ⟨v8, vs8, d8, ds8, p8, q8, rfl, rfl, rfl, h8, r8⟩ := trodAll_cons r7
  obtain ⟨rfl, rfl, rfl⟩ := trodAll_nil r8
  obtain rfl : args = #[v0, v1, v2, v3, v4, v5, v6, v7, v8] := by cases args; simp_all
  obtain ⟨rfl, rfl⟩ := trodVars_none hV
  obtain ⟨a0, rfl, rfl, rfl, w0⟩ := open_string Yba.underlying9 (hval 0 9 v0 rfl rfl) h0
  obtain ⟨a1, rfl, rfl, rfl, w1⟩ := open_int Yba.underlying22 (hval 1 22 v1 rfl rfl) h1
  obtain ⟨a2, rfl, rfl, rfl, w2⟩ := open_string Yba.underlying9 (hval 2 9 v2 rfl rfl) h2
  obtain ⟨a3, rfl, rfl, rfl, w3⟩ := open_int Yba.underlying5 (hval 3 5 v3 rfl rfl) h3
  obtain ⟨a4, rfl, rfl, rfl, w4⟩ := open_string Yba.underlying9 (hval 4 9 v4 rfl rfl) h4
  obtain ⟨a5, rfl, rfl, rfl, w5⟩ := open_int Yba.underlying5 (hval 5 5 v5 rfl rfl) h5
  obtain ⟨a6, rfl, rfl, rfl, w6⟩ := open_int Yba.underlying22 (hval 6 22 v6 rfl rfl) h6
  obtain ⟨a7, len7, cap7, rfl⟩ := okWide_slice Yba.underlying86 (hval 7 86 v7 rfl rfl)
  have k7 := h7
  have lt7 : ∀ x ∈ p7, x.block < W.heap.size := by obtain ⟨m, hm⟩ := k7; exact DataW.trod_lt m _ _ _ hm
  obtain ⟨hlen7, ms, w7⟩ : len7 ≤ maxLen ∧ ∃ ms, Rows4 W a7 len7 ms := by
    obtain ⟨fuel, hf⟩ := h7
    exact rows_of (by simpa [Value.cells] using hf)
  obtain ⟨a8, rfl, rfl, rfl, w8⟩ := open_int Yba.underlying5 (hval 8 5 v8 rfl rfl) h8
  clear hA0 hval0
  have walk : Calls Yba.prog 4 #[.string a0, .int .u64 a1, .string a2, .int .u8 a3, .string a4, .int .u8 a5, .int .u64 a6, .slice a7 len7 cap7, .int .u8 a8] W fun e w' => e = .returned (.bool true) ∧ Below W.heap.size W w' := by
    by_cases hL : len7 ≤ 1024
    · obtain ⟨rfl, hz⟩ := w7
      exact walkB a0 a1 a2 a3 a4 a5 a6 a7 ms cap7 a8 W hL (u8_bounds w3) (u8_bounds w5) (u8_bounds w8) hz
    · exact walkLong a0 a1 a2 a3 a4 a5 a6 a7 len7 cap7 a8 W hL hlen7
  refine walk.mono fun e W' ⟨he, bel⟩ => ?_
  subst he
  exact ⟨_, rfl, _, _, _, [], _, [], hW', trodAll_mk1 (shut_bool Yba.underlying4 _), (trodAll_cons_mk (shut_string Yba.underlying9 w0) (trodAll_cons_mk (shut_int Yba.underlying22 w1) (trodAll_cons_mk (shut_string Yba.underlying9 w2) (trodAll_cons_mk (shut_int Yba.underlying5 w3) (trodAll_cons_mk (shut_string Yba.underlying9 w4) (trodAll_cons_mk (shut_int Yba.underlying5 w5) (trodAll_cons_mk (shut_int Yba.underlying22 w6) (trodAll_cons_mk (Below.trod laidOut (by kernel_rfl) (of_decide_eq_true (by kernel_rfl)) k7 bel lt7) (trodAll_cons_mk (shut_int Yba.underlying5 w8) trodAll_mk0))))))))), rfl, bel.frame _, fun h => by cases h⟩

theorem over : Rows.lawS3987BSendsRow.holds Yba.pinned (OpenSpec.ofChange Rows.lawS3987BSendsSpec) :=
  OpenClaim.holds_of_wide 4 Yba.f4 rfl rfl rfl rfl rfl rfl rfl ⟨rfl, rfl, rfl, rfl, rfl⟩ rfl rfl rfl rfl rfl (by kernel_rfl) Yba.func4 (by kernel_rfl)
    (of_decide_eq_true (by kernel_rfl)) (by unfold Func.isWrapper; first | (rw [if_pos (by decide +kernel)]; kernel_rfl) | (rw [if_neg (by decide +kernel)]; exact ⟨rfl, rfl⟩))
    (fun os started H enc _ => lifted os started H enc)

theorem proved : Rows.LawS3987BSendsSaid := over
end Go.Proofs.Ybulkcdnw.lawS3987BSends
