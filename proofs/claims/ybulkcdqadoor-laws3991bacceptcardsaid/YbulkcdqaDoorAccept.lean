/-
  The card of stratalog.LawS3991BAccept.
-/
import Derived.Test.YbulkcdqaDoorCards
import Derived.Test.YbulkcdqaDoorTie
import Derived.Test.YbulkcdqaDoorAcc
import Derived.Test.YbulkcdqaDoorLaid
import Derived.SevenTiedAt
namespace Go.Proofs.YbulkcdqaDoor.lawS3991BAccept
open Go.ChangeShapes Go.WideShapes Go.ChangeAt Go.RowKit Go.Deep
set_option maxRecDepth 100000

/-- More than 4096 bytes: true at once. -/
theorem walkLong (win lev : Int) (dict : Bool) (ao : Option Addr) (L cap : Nat) (w : World) (hL : ¬ L ≤ 4096) (hm : L ≤ maxLen) :
    Calls Ybad.prog 4 #[.int .u8 win, .int .u8 lev, .bool dict, .slice ao L cap] w fun e w' => e = .returned (.bool true) ∧ Below w.heap.size w w' := by
  unfold maxLen at hm
  have h : (4096 : Int) < (L : Int) := by omega
  go_enter Ybad.func4, Ybad.ntmps4
  go_wp2
  go_ret
  exact ⟨rfl, Below.refl _ _⟩

theorem lifted (os : Os) (started : os.Started) (H : Type) (enc : TypeId × Value → H) :
    ReturnsInHanded {} Ybad.checked os 4 .any (fun w args => (Rows.lawS3991BAcceptSpec.pre enc Ybad.prog Ybad.f4 [] false w args ∧ laidMet Ybad.prog laid3 w) ∧ sizedMet enc Ybad.prog Ybad.f4 (OpenSpec.ofChange Rows.lawS3991BAcceptSpec) false w args)
      (Rows.lawS3991BAcceptSpec.post enc Ybad.prog Ybad.f4 false true false false) := by
  refine returnsInHanded_of_change_and (C := Ybad.checked) (X := fun w _ => laidMet Ybad.prog laid3 w) (fun _ _ _ hh h => h.of_heap hh) Ybad.own started (by kernel_rfl) Ybad.func4
    (ChangeSpec.witness_at (enc := enc) (C := Ybad.checked) (os := os) (X := fun w _ => laidMet Ybad.prog laid3 w) false (laidWorld Ybad.prog os) #[.int .u8 0, .int .u8 0, .bool false, .slice none 0 0] 8 rfl (by kernel_rfl) (by kernel_rfl) (by kernel_rfl) (by kernel_rfl) (by kernel_rfl) (laidWorld_met os _)) ?_
  intro W base args ds gs before hval0 hW _ _ hL _
  have hval : ∀ (j : Nat) t v, Ybad.f4.params[j]? = some t → args[j]? = some v → Value.okWide Ybad.prog W .any base t v := hval0
  have hW' := hW
  obtain ⟨p, q, hA0, hV0, rfl, hfz, hnd⟩ := hW
  have hA : DataW.TrodAll enc Ybad.prog W 0 (fun _ => true) true Ybad.f4.params.toList args.toList ds p := hA0
  have hV : DataW.TrodVars enc Ybad.prog W (fun _ => true) [] gs q := hV0
  rw [Ybad.params4] at hA hval
  obtain ⟨v0, vs0, d0, ds0, p0, q0, hargs, rfl, rfl, h0, r0⟩ := trodAll_cons hA
  obtain ⟨v1, vs1, d1, ds1, p1, q1, rfl, rfl, rfl, h1, r1⟩ := trodAll_cons r0
  obtain ⟨v2, vs2, d2, ds2, p2, q2, rfl, rfl, rfl, h2, r2⟩ := trodAll_cons r1
  obtain ⟨v3, vs3, d3, ds3, p3, q3, rfl, rfl, rfl, h3, r3⟩ := trodAll_cons r2
  obtain ⟨rfl, rfl, rfl⟩ := trodAll_nil r3
  obtain rfl : args = #[v0, v1, v2, v3] := by cases args; simp_all
  obtain ⟨rfl, rfl⟩ := trodVars_none hV
  obtain ⟨x0, rfl, rfl, rfl, w0⟩ := open_int Ybad.underlying5 (hval 0 5 v0 rfl rfl) h0
  obtain ⟨x1, rfl, rfl, rfl, w1⟩ := open_int Ybad.underlying5 (hval 1 5 v1 rfl rfl) h1
  obtain ⟨x2, rfl, rfl, rfl⟩ := open_bool Ybad.underlying4 (hval 2 4 v2 rfl rfl) h2
  obtain ⟨ao, len, cap, rfl⟩ := okWide_slice Ybad.underlying22 (hval 3 22 v3 rfl rfl)
  have k3 := h3
  have lt3 : ∀ x ∈ p3, x.block < W.heap.size := by obtain ⟨m, hm⟩ := k3; exact DataW.trod_lt m _ _ _ hm
  obtain ⟨a0, a1, a2, c0, c1, c2, t0, t1, t2, g0, g1, g2, _⟩ := sentinels_of_laid hL
  obtain ⟨hlm, _, _, zs, rfl, hn, hz, hc⟩ : len ≤ maxLen ∧ len ≤ cap ∧ cap ≤ maxLen ∧ ∃ zs : List Int, zs.length = len ∧ (ao = none → zs.length = 0 ∧ cap = 0) ∧ (∀ k, k < zs.length → 0 ≤ zs.getD k 0 ∧ zs.getD k 0 ≤ 255) ∧ ∀ a, ao = some a → ∀ k, k < zs.length → W.cell? (a.add k) = some (.int .u8 (zs.getD k 0)) := by
    obtain ⟨fuel, hf⟩ := h3
    exact bytes_of (by simpa [Value.cells] using hf)
  clear hA0 hV0 hval0
  have walk : Calls Ybad.prog 4 #[.int .u8 x0, .int .u8 x1, .bool x2, .slice ao zs.length cap] W fun e w' => e = .returned (.bool true) ∧ Below W.heap.size W w' := by
    by_cases hb : zs.length ≤ 4096
    · exact accept_any x0 x1 x2 ao zs cap W hb (bounds_u8 w0) (bounds_u8 w1) _ g2 hn hc
    · exact walkLong x0 x1 x2 ao zs.length cap W hb hlm
  refine walk.mono fun e W' ⟨he, bel⟩ => ?_
  subst he
  exact ⟨_, rfl, _, _, _, [], _, [], hW', trodAll_mk1 (shut_bool Ybad.underlying4 _), (trodAll_cons_mk (shut_int Ybad.underlying5 w0) (trodAll_cons_mk (shut_int Ybad.underlying5 w1) (trodAll_cons_mk (shut_bool Ybad.underlying4 _) (trodAll_cons_mk (Below.trod Ybad.laidOut (by kernel_rfl) (of_decide_eq_true (by kernel_rfl)) k3 bel lt3) trodAll_mk0)))), rfl, bel.frame _, fun h => by cases h⟩

theorem row : Rows.LawS3991BAcceptSaid :=
  OpenClaim.holds_of_wide 4 Ybad.f4 rfl rfl rfl rfl rfl rfl rfl ⟨rfl, rfl, rfl, rfl, rfl⟩ rfl rfl rfl rfl rfl (by kernel_rfl) Ybad.func4 (by kernel_rfl)
    (of_decide_eq_true (by kernel_rfl)) (by unfold Func.isWrapper; rw [if_neg (of_decide_eq_false (by kernel_rfl))]; exact ⟨rfl, rfl⟩)
    (fun os started H enc _ => lifted os started H enc)

theorem wants (j : Nat) (t : TypeId) (ht : #[5, 5, 4, 22][j]? = some t) : Ybad.prog.wantsStandIn t = false := by
  rcases j with _ | _ | _ | _ | j
  · obtain rfl : (5 : TypeId) = t := by simpa using ht
    kernel_rfl
  · obtain rfl : (5 : TypeId) = t := by simpa using ht
    kernel_rfl
  · obtain rfl : (4 : TypeId) = t := by simpa using ht
    kernel_rfl
  · obtain rfl : (22 : TypeId) = t := by simpa using ht
    kernel_rfl
  · simp at ht

theorem proved : Rows.LawS3991BAcceptCardSaid :=
  Claim7.holds_tied_plain_at .later [] [.sentinel, .sentinel, .sentinel] true (true, "9503414951e3f7c2ebd134117d1e8a84fe8cc250662c30fbfdc52d07ccbdcc58") true
    row (fun _ h => by cases h) (by kernel_rfl) (fun _ h => by cases h) lawS3991BAccept_row_tie rfl ⟨rfl, rfl⟩ (by kernel_rfl) rfl
    (fun f fn hf hfn => by
      obtain rfl : f = 4 := Option.some.inj ((show Ybad.prog.funcNamed "example.com/stratalog/stratalog.LawS3991BAccept" = some 4 by kernel_rfl).symm.trans hf) |>.symm
      obtain rfl : fn = Ybad.f4 := (Option.some.inj (Ybad.func4.symm.trans hfn)).symm
      exact ⟨by kernel_rfl, fun j t ht => by rw [Ybad.params4] at ht; exact wants j t ht⟩)
    (by kernel_rfl)
end Go.Proofs.YbulkcdqaDoor.lawS3991BAccept
