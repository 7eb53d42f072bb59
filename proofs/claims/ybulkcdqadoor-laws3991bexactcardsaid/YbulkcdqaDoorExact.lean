/-
  The card of stratalog.LawS3991BExact.
-/
import Derived.Test.YbulkcdqaDoorCards
import Derived.Test.YbulkcdqaDoorTie
import Derived.Test.YbulkcdqaDoorExB
import Derived.Test.YbulkcdqaDoorLaid
import Derived.SevenTiedAt
namespace Go.Proofs.YbulkcdqaDoor.lawS3991BExact
open Go.ChangeShapes Go.WideShapes Go.ChangeAt Go.RowKit Go.Deep
set_option maxRecDepth 100000

/-- More than 4096 bytes: true at once. -/
theorem walkLong (ao : Option Addr) (L cap : Nat) (p fl : Int) (w : World) (hL : ¬ L ≤ 4096) (hm : L ≤ maxLen) :
    Calls Ybad.prog 3 #[.slice ao L cap, .int .i64 p, .int .u8 fl] w fun e w' => e = .returned (.bool true) ∧ Below w.heap.size w w' := by
  unfold maxLen at hm
  have h : (4096 : Int) < (L : Int) := by omega
  go_enter Ybad.func3, Ybad.ntmps3
  go_wp2
  go_ret
  exact ⟨rfl, Below.refl _ _⟩

theorem lifted (os : Os) (started : os.Started) (H : Type) (enc : TypeId × Value → H) :
    ReturnsInHanded {} Ybad.checked os 3 .any (fun w args => (Rows.lawS3991BExactSpec.pre enc Ybad.prog Ybad.f3 [] false w args ∧ laidMet Ybad.prog laid3 w) ∧ sizedMet enc Ybad.prog Ybad.f3 (OpenSpec.ofChange Rows.lawS3991BExactSpec) false w args)
      (Rows.lawS3991BExactSpec.post enc Ybad.prog Ybad.f3 false true false false) := by
  refine returnsInHanded_of_change_and (C := Ybad.checked) (X := fun w _ => laidMet Ybad.prog laid3 w) (fun _ _ _ hh h => h.of_heap hh) Ybad.own started (by kernel_rfl) Ybad.func3
    (ChangeSpec.witness_at (enc := enc) (C := Ybad.checked) (os := os) (X := fun w _ => laidMet Ybad.prog laid3 w) false (laidWorld Ybad.prog os) #[.slice none 0 0, .int .i64 0, .int .u8 0] 8 rfl (by kernel_rfl) (by kernel_rfl) (by kernel_rfl) (by kernel_rfl) (by kernel_rfl) (laidWorld_met os _)) ?_
  intro W base args ds gs before hval0 hW _ _ hL _
  have hval : ∀ (j : Nat) t v, Ybad.f3.params[j]? = some t → args[j]? = some v → Value.okWide Ybad.prog W .any base t v := hval0
  have hW' := hW
  obtain ⟨p, q, hA0, hV0, rfl, hfz, hnd⟩ := hW
  have hA : DataW.TrodAll enc Ybad.prog W 0 (fun _ => true) true Ybad.f3.params.toList args.toList ds p := hA0
  have hV : DataW.TrodVars enc Ybad.prog W (fun _ => true) [] gs q := hV0
  rw [Ybad.params3] at hA hval
  obtain ⟨v0, vs0, d0, ds0, p0, q0, hargs, rfl, rfl, h0, r0⟩ := trodAll_cons hA
  obtain ⟨v1, vs1, d1, ds1, p1, q1, rfl, rfl, rfl, h1, r1⟩ := trodAll_cons r0
  obtain ⟨v2, vs2, d2, ds2, p2, q2, rfl, rfl, rfl, h2, r2⟩ := trodAll_cons r1
  obtain ⟨rfl, rfl, rfl⟩ := trodAll_nil r2
  obtain rfl : args = #[v0, v1, v2] := by cases args; simp_all
  obtain ⟨rfl, rfl⟩ := trodVars_none hV
  obtain ⟨ao, len, cap, rfl⟩ := okWide_slice Ybad.underlying22 (hval 0 22 v0 rfl rfl)
  obtain ⟨x1, rfl, rfl, rfl, w1⟩ := open_int Ybad.underlying3 (hval 1 3 v1 rfl rfl) h1
  obtain ⟨x2, rfl, rfl, rfl, w2⟩ := open_int Ybad.underlying5 (hval 2 5 v2 rfl rfl) h2
  have k0 := h0
  have lt0 : ∀ x ∈ p0, x.block < W.heap.size := by obtain ⟨m, hm⟩ := k0; exact DataW.trod_lt m _ _ _ hm
  obtain ⟨a0, a1, a2, c0, c1, c2, t0, t1, t2, g0, g1, g2, n01, n02, n12, b0, b1, b2⟩ := sentinels_of_laid hL
  have hS : Sent W a0 a1 a2 := ⟨g0, g1, g2, n01, n02, n12, ⟨_, _, b0⟩, ⟨_, _, b1⟩, ⟨_, _, b2⟩⟩
  obtain ⟨hlm, _, _, zs, rfl, hn, hz, hc⟩ : len ≤ maxLen ∧ len ≤ cap ∧ cap ≤ maxLen ∧ ∃ zs : List Int, zs.length = len ∧ (ao = none → zs.length = 0 ∧ cap = 0) ∧ (∀ k, k < zs.length → 0 ≤ zs.getD k 0 ∧ zs.getD k 0 ≤ 255) ∧ ∀ a, ao = some a → ∀ k, k < zs.length → W.cell? (a.add k) = some (.int .u8 (zs.getD k 0)) := by
    obtain ⟨fuel, hf⟩ := h0
    exact bytes_of (by simpa [Value.cells] using hf)
  clear hA0 hV0 hval0
  have walk : Calls Ybad.prog 3 #[.slice ao zs.length cap, .int .i64 x1, .int .u8 x2] W fun e w' => e = .returned (.bool true) ∧ Below W.heap.size W w' := by
    by_cases hb : zs.length ≤ 4096
    · cases ao with
      | none =>
        obtain ⟨e1, e2⟩ := hn rfl
        rw [e1, e2]
        exact exact_nil x1 x2 W (bounds_u8 w2) a0 a1 a2 hS
      | some a => exact exact_some a zs cap x1 x2 W hb (bounds_u8 w2) a0 a1 a2 hS (hc a rfl) hz
    · exact walkLong ao zs.length cap x1 x2 W hb hlm
  refine walk.mono fun e W' ⟨he, bel⟩ => ?_
  subst he
  exact ⟨_, rfl, _, _, _, [], _, [], hW', trodAll_mk1 (shut_bool Ybad.underlying4 _), (trodAll_cons_mk (Below.trod Ybad.laidOut (by kernel_rfl) (of_decide_eq_true (by kernel_rfl)) k0 bel lt0) (trodAll_cons_mk (shut_int Ybad.underlying3 w1) (trodAll_cons_mk (shut_int Ybad.underlying5 w2) trodAll_mk0))), rfl, bel.frame _, fun h => by cases h⟩

theorem row : Rows.LawS3991BExactSaid :=
  OpenClaim.holds_of_wide 3 Ybad.f3 rfl rfl rfl rfl rfl rfl rfl ⟨rfl, rfl, rfl, rfl, rfl⟩ rfl rfl rfl rfl rfl (by kernel_rfl) Ybad.func3 (by kernel_rfl)
    (of_decide_eq_true (by kernel_rfl)) (by unfold Func.isWrapper; rw [if_neg (of_decide_eq_false (by kernel_rfl))]; exact ⟨rfl, rfl⟩)
    (fun os started H enc _ => lifted os started H enc)

theorem wants (j : Nat) (t : TypeId) (ht : #[22, 3, 5][j]? = some t) : Ybad.prog.wantsStandIn t = false := by
  rcases j with _ | _ | _ | j
  · obtain rfl : (22 : TypeId) = t := by simpa using ht
    kernel_rfl
  · obtain rfl : (3 : TypeId) = t := by simpa using ht
    kernel_rfl
  · obtain rfl : (5 : TypeId) = t := by simpa using ht
    kernel_rfl
  · simp at ht

theorem proved : Rows.LawS3991BExactCardSaid :=
  Claim7.holds_tied_plain_at .later [] [.sentinel, .sentinel, .sentinel] true (true, "9503414951e3f7c2ebd134117d1e8a84fe8cc250662c30fbfdc52d07ccbdcc58") true
    row (fun _ h => by cases h) (by kernel_rfl) (fun _ h => by cases h) lawS3991BExact_row_tie rfl ⟨rfl, rfl⟩ (by kernel_rfl) rfl
    (fun f fn hf hfn => by
      obtain rfl : f = 3 := Option.some.inj ((show Ybad.prog.funcNamed "example.com/stratalog/stratalog.LawS3991BExact" = some 3 by kernel_rfl).symm.trans hf) |>.symm
      obtain rfl : fn = Ybad.f3 := (Option.some.inj (Ybad.func3.symm.trans hfn)).symm
      exact ⟨by kernel_rfl, fun j t ht => by rw [Ybad.params3] at ht; exact wants j t ht⟩)
    (by kernel_rfl)
end Go.Proofs.YbulkcdqaDoor.lawS3991BExact
