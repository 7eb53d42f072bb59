/-
  The row of membership.LawS3987AProposes: the frame as the kit's skeleton lays it, nine parameters; slices of structs, one of them with slices inside.
-/
import Derived.Test.YbulkcdnwA18
import Derived.WalkKit
import Derived.ProofKit
import Derived.OpenShut
import Derived.ShutString
import Derived.ChangeOld
import Derived.Below
import Derived.Deep.Slices
namespace Go.Proofs.Ybulkcdnw.lawS3987AProposes
open Go.ChangeShapes Go.WideShapes Go.ChangeAt Go.RowKit Go.Deep
open Go.ChangeMaps (open_string shut_string)
set_option linter.unusedVariables false
set_option linter.unusedSimpArgs false
set_option maxRecDepth 100000

theorem own : ownKnob Yba.prog.godebug = none := by kernel_rfl
theorem laidOut : laidOutB Yba.prog = true := by kernel_rfl
theorem cells29 : Yba.prog.cellsOf 29 = 3 := by kernel_rfl
theorem cells27 : Yba.prog.cellsOf 27 = 4 := by kernel_rfl
theorem cells22 : Yba.prog.cellsOf 22 = 1 := by kernel_rfl
theorem cells4 : Yba.prog.cellsOf 4 = 1 := by kernel_rfl
theorem cells5 : Yba.prog.cellsOf 5 = 1 := by kernel_rfl
theorem cells3 : Yba.prog.cellsOf 3 = 1 := by kernel_rfl
theorem cells25 : Yba.prog.cellsOf 25 = 1 := by kernel_rfl

/-- A slice is longer than 300: true at once. -/
theorem walkLong (view : Int) (am : Option Addr) (lm cm : Nat) (sa : Int) (ap : Option Addr) (lp cp : Nat) (ha : Bool) (xa : Option Addr) (la cxa : Nat) (xb : Option Addr) (lb cxb : Nat) (grp : ByteArray) (aft : Int) (w : World) (h : ¬ (lm ≤ 300 ∧ lp ≤ 300 ∧ la ≤ 300 ∧ lb ≤ 300)) :
    Calls Yba.prog 3 #[.int .u64 view, .slice am lm cm, .int .u8 sa, .slice ap lp cp, .bool ha, .slice xa la cxa, .slice xb lb cxb, .string grp, .int .i64 aft] w fun e w' => e = .returned (.bool true) ∧ Below w.heap.size w w' := by
  by_cases h1 : (300 : Int) < (lm : Int)
  · clear h
    go_enter Yba.func3, Yba.ntmps3
    go_wp2
    go_ret
    exact ⟨rfl, Below.refl _ _⟩
  · by_cases h2 : (300 : Int) < (lp : Int)
    · clear h
      go_enter Yba.func3, Yba.ntmps3
      go_wp2
      go_ret
      exact ⟨rfl, Below.refl _ _⟩
    · by_cases h3 : (300 : Int) < (la : Int)
      · clear h
        go_enter Yba.func3, Yba.ntmps3
        go_wp2
        go_ret
        exact ⟨rfl, Below.refl _ _⟩
      · have h4 : (300 : Int) < (lb : Int) := by omega
        clear h
        go_enter Yba.func3, Yba.ntmps3
        go_wp2
        go_ret
        exact ⟨rfl, Below.refl _ _⟩

theorem cell_lt {W : World} {b off : Nat} {v : Value} (h : W.cell? ⟨b, off, none⟩ = some v) : b < W.heap.size := by
  rcases Nat.lt_or_ge b W.heap.size with hlt | hge
  · exact hlt
  · rw [World.cell?, Array.getElem?_eq_none hge] at h
    simp at h

/-- The members that came in. -/
theorem ms_of {H : Type} {enc : TypeId × Value → H} {W : World} {fuel : Nat} {ao : Option Addr} {len cap : Nat} {x : DataW H × List MemPlace}
    (h : DataW.trod enc Yba.prog W 0 (fun _ => true) true fuel 23 [.slice ao len cap] = some x) : ∃ zs : List ZM, zs.length = len ∧ MsIn W ao zs := by
  rcases open_slice Yba.underlying23 h with ⟨hcs, _⟩ | ⟨a, l, c, m, n, D, Pl, hcs, _, hl, hm, hmm, _, hx⟩
  · simp at hcs
    obtain ⟨rfl, rfl, rfl⟩ := hcs
    exact ⟨[], rfl, fun k hk => absurd hk (Nat.not_lt_zero _)⟩
  · simp at hcs
    obtain ⟨rfl, rfl, rfl⟩ := hcs
    simp only [if_true] at hmm
    rw [cells29] at hx
    have one : ∀ i, i < len → ∃ mm : ZM, W.cell? (a.add (i * 3)) = some (.int .u64 mm.inc) ∧ W.cell? (a.add (i * 3 + 1)) = some (.bool mm.sus) ∧ W.cell? (a.add (i * 3 + 2)) = some (.bool mm.lea) := fun i hi => by
      obtain ⟨cs', h1, h2⟩ := hx i (by omega)
      obtain ⟨_, hlen, hcell⟩ := World.cells?_some h1
      obtain ⟨xs, n', _, _, _, hxl, hf⟩ := DataW.trod_struct Yba.underlying29 h2
      match cs', hlen with
      | [c0, c1, c2], _ =>
        have f0 := hf 0 _ rfl
        have f1 := hf 1 _ rfl
        have f2 := hf 2 _ rfl
        match xs, hxl with
        | [x0, x1, x2], _ =>
          simp [cells4, cells22] at f0 f1 f2
          obtain ⟨n0, e0, _⟩ := DataW.trod_int Yba.underlying22 f0
          obtain ⟨b1, e1, _⟩ := DataW.trod_bool Yba.underlying4 f1
          obtain ⟨b2, e2, _⟩ := DataW.trod_bool Yba.underlying4 f2
          simp at e0 e1 e2
          subst e0 e1 e2
          have g0 := hcell 0 (by decide)
          have g1 := hcell 1 (by decide)
          have g2 := hcell 2 (by decide)
          rw [add_add] at g0 g1 g2
          exact ⟨⟨n0, b1, b2⟩, g0, g1, g2⟩
    have inh : Inhabited ZM := ⟨zm0⟩
    obtain ⟨f, hf⟩ := choose_lt (α := ZM) (n := len) (p := fun i mm => W.cell? (a.add (i * 3)) = some (.int .u64 mm.inc) ∧ W.cell? (a.add (i * 3 + 1)) = some (.bool mm.sus) ∧ W.cell? (a.add (i * 3 + 2)) = some (.bool mm.lea)) one
    refine ⟨(List.range len).map f, by simp, fun k hk => ?_⟩
    simp only [List.length_map, List.length_range] at hk
    obtain ⟨b, off, spot⟩ := a
    obtain ⟨g0, g1, g2⟩ := hf k hk
    have h00 := (hf 0 (Nat.lt_of_le_of_lt (Nat.zero_le k) hk)).1
    rw [Nat.zero_mul] at h00
    have hspot : spot = none := by simpa [Addr.add] using World.cell?_spot h00
    subst hspot
    rw [add_plain] at g0 g1 g2
    refine ⟨b, off, rfl, cell_lt g0, ?_, ?_, ?_⟩
    · rw [g0]; simp [List.getD, hk]
    · rw [Nat.add_assoc, g1]; simp [List.getD, hk]
    · rw [Nat.add_assoc, g2]; simp [List.getD, hk]

theorem u8_bounds {x : Int} (h : (Lit.int .u8 x).wf = true) : 0 ≤ x ∧ x ≤ 255 := by
  simp [Lit.wf, IntKind.min, IntKind.max, IntKind.signed, IntKind.bits] at h
  omega
theorem i64_bounds {x : Int} (h : (Lit.int .i64 x).wf = true) : -9223372036854775808 ≤ x ∧ x ≤ 9223372036854775807 := by
  simp [Lit.wf, IntKind.min, IntKind.max, IntKind.signed, IntKind.bits] at h
  omega

/-- Bytes that came in. -/
theorem bytes_of {H : Type} {enc : TypeId × Value → H} {W : World} {fuel : Nat} {ao : Option Addr} {len cap : Nat} {x : DataW H × List MemPlace}
    (h : DataW.trod enc Yba.prog W 0 (fun _ => true) true fuel 25 [.slice ao len cap] = some x) : len ≤ maxLen ∧ ∃ zs : List Nat, zs.length = len ∧ BytesIn W ao zs := by
  rcases open_slice1 Yba.underlying25 cells5 h with ⟨hcs, _⟩ | ⟨a, l, c, m, n, V, D, Pl, hcs, _, hl, hm, hmm, _, hx⟩
  · simp at hcs
    obtain ⟨rfl, rfl, rfl⟩ := hcs
    exact ⟨Nat.zero_le _, [], rfl, fun k hk => absurd hk (Nat.not_lt_zero _)⟩
  · simp at hcs
    obtain ⟨rfl, rfl, rfl⟩ := hcs
    simp only [if_true] at hmm
    refine ⟨Nat.le_trans hl hm, ?_⟩
    have one : ∀ i, i < len → ∃ z : Nat, W.cell? (a.add i) = some (.int .u8 (z : Int)) ∧ z < 256 := fun i hi => by
      obtain ⟨h1, h2⟩ := hx i (by omega)
      obtain ⟨n0, e0, _, w0⟩ := DataW.trod_int Yba.underlying5 h2
      simp at e0
      have := u8_bounds w0
      exact ⟨n0.toNat, by rw [h1, e0, Int.toNat_of_nonneg this.1], by omega⟩
    obtain ⟨f, hf⟩ := choose_lt (α := Nat) (n := len) (p := fun i z => W.cell? (a.add i) = some (.int .u8 (z : Int)) ∧ z < 256) one
    refine ⟨(List.range len).map f, by simp, fun k hk => ?_⟩
    simp only [List.length_map, List.length_range] at hk
    obtain ⟨b, off, spot⟩ := a
    obtain ⟨g0, g1⟩ := hf k hk
    have h00 := (hf 0 (Nat.lt_of_le_of_lt (Nat.zero_le k) hk)).1
    have hspot : spot = none := by simpa [Addr.add] using World.cell?_spot h00
    subst hspot
    rw [add_plain] at g0
    refine ⟨b, off, rfl, cell_lt g0, ?_, ?_⟩
    · rw [g0]; simp [List.getD, hk]
    · simpa [List.getD, hk] using g1

/-- The proposals that came in. -/
theorem ps_of {H : Type} {enc : TypeId × Value → H} {W : World} {fuel : Nat} {ao : Option Addr} {len cap : Nat} {x : DataW H × List MemPlace}
    (h : DataW.trod enc Yba.prog W 0 (fun _ => true) true fuel 24 [.slice ao len cap] = some x) : ∃ ps : List ZP, ps.length = len ∧ PsIn W ao ps := by
  rcases open_slice Yba.underlying24 h with ⟨hcs, _⟩ | ⟨a, l, c, m, n, D, Pl, hcs, _, hl, hm, hmm, _, hx⟩
  · simp at hcs
    obtain ⟨rfl, rfl, rfl⟩ := hcs
    exact ⟨[], rfl, fun k hk => absurd hk (Nat.not_lt_zero _)⟩
  · simp at hcs
    obtain ⟨rfl, rfl, rfl⟩ := hcs
    simp only [if_true] at hmm
    rw [cells27] at hx
    have one : ∀ i, i < len → ∃ mm : ZP, (W.cell? (a.add (i * 4)) = some (.int .u8 mm.off) ∧ W.cell? (a.add (i * 4 + 1)) = some (.int .i64 mm.rank) ∧ W.cell? (a.add (i * 4 + 2)) = some (.slice mm.aa mm.za.length mm.ca) ∧ W.cell? (a.add (i * 4 + 3)) = some (.slice mm.ab mm.zb.length mm.cb)) ∧
        BytesIn W mm.aa mm.za ∧ BytesIn W mm.ab mm.zb ∧ mm.za.length ≤ 9223372036854775807 ∧ mm.zb.length ≤ 9223372036854775807 ∧ 0 ≤ mm.off ∧ mm.off ≤ 255 := fun i hi => by
      obtain ⟨cs', h1, h2⟩ := hx i (by omega)
      obtain ⟨_, hlen, hcell⟩ := World.cells?_some h1
      obtain ⟨xs, n', _, _, _, hxl, hf⟩ := DataW.trod_struct Yba.underlying27 h2
      match cs', hlen with
      | [c0, c1, c2, c3], _ =>
        have f0 := hf 0 _ rfl
        have f1 := hf 1 _ rfl
        have f2 := hf 2 _ rfl
        have f3 := hf 3 _ rfl
        match xs, hxl with
        | [x0, x1, x2, x3], _ =>
          simp [cells3, cells5, cells25] at f0 f1 f2 f3
          obtain ⟨n0, e0, _, w0⟩ := DataW.trod_int Yba.underlying5 f0
          obtain ⟨n1, e1, _⟩ := DataW.trod_int Yba.underlying3 f1
          simp at e0 e1
          subst e0 e1
          have sl : ∀ {c : Value} {y}, DataW.trod enc Yba.prog W 0 (fun _ => true) true n' 25 [c] = some y → ∃ ao ln cp, c = .slice ao ln cp := fun {c y} hc => by
            rcases open_slice Yba.underlying25 hc with ⟨hcs, _⟩ | ⟨_, _, _, _, _, _, _, hcs, _⟩
            · simp at hcs; exact ⟨_, _, _, hcs⟩
            · simp at hcs; exact ⟨_, _, _, hcs⟩
          obtain ⟨a2, l2, k2, rfl⟩ := sl f2
          obtain ⟨a3, l3, k3, rfl⟩ := sl f3
          obtain ⟨m2, z2, rfl, b2⟩ := bytes_of f2
          obtain ⟨m3, z3, rfl, b3⟩ := bytes_of f3
          have g0 := hcell 0 (by decide)
          have g1 := hcell 1 (by decide)
          have g2 := hcell 2 (by decide)
          have g3 := hcell 3 (by decide)
          rw [add_add] at g0 g1 g2 g3
          unfold maxLen at m2 m3
          have ub := u8_bounds w0
          exact ⟨⟨n0, n1, a2, z2, k2, a3, z3, k3⟩, ⟨g0, g1, g2, g3⟩, b2, b3, by show z2.length ≤ _; omega, by show z3.length ≤ _; omega, ub.1, ub.2⟩
    have inh : Inhabited ZP := ⟨zp0⟩
    obtain ⟨f, hf⟩ := choose_lt (α := ZP) (n := len) (p := fun i mm => (W.cell? (a.add (i * 4)) = some (.int .u8 mm.off) ∧ W.cell? (a.add (i * 4 + 1)) = some (.int .i64 mm.rank) ∧ W.cell? (a.add (i * 4 + 2)) = some (.slice mm.aa mm.za.length mm.ca) ∧ W.cell? (a.add (i * 4 + 3)) = some (.slice mm.ab mm.zb.length mm.cb)) ∧
        BytesIn W mm.aa mm.za ∧ BytesIn W mm.ab mm.zb ∧ mm.za.length ≤ 9223372036854775807 ∧ mm.zb.length ≤ 9223372036854775807 ∧ 0 ≤ mm.off ∧ mm.off ≤ 255) one
    refine ⟨(List.range len).map f, by simp, fun k hk => ?_⟩
    simp only [List.length_map, List.length_range] at hk
    have hget : ((List.range len).map f).getD k zp0 = f k := by simp [List.getD, hk]
    rw [hget]
    obtain ⟨b, off, spot⟩ := a
    obtain ⟨⟨g0, g1, g2, g3⟩, hrest⟩ := hf k hk
    have h00 := (hf 0 (Nat.lt_of_le_of_lt (Nat.zero_le k) hk)).1.1
    rw [Nat.zero_mul] at h00
    have hspot : spot = none := by simpa [Addr.add] using World.cell?_spot h00
    subst hspot
    rw [add_plain] at g0 g1 g2 g3
    exact ⟨⟨b, off, rfl, cell_lt g0, g0, by rw [Nat.add_assoc]; exact g1, by rw [Nat.add_assoc]; exact g2, by rw [Nat.add_assoc]; exact g3⟩, hrest⟩

set_option maxRecDepth 100000 in
theorem lifted (os : Os) (started : os.Started) (H : Type) (enc : TypeId × Value → H) :
    ReturnsInHanded {} Yba.checked os 3 .any (Rows.lawS3987AProposesSpec.pre6 enc Yba.prog Yba.f3 Rows.lawS3987AProposesRow.domain false) (Rows.lawS3987AProposesSpec.post enc Yba.prog Yba.f3 false true false false) := by
  refine returnsInHanded_of_change (C := Yba.checked) own started (by kernel_rfl) Yba.func3
    (ChangeSpec.witness6 (enc := enc) (C := Yba.checked) false ⟨#[], #[.int .u64 0, .slice none 0 0, .int .u8 0, .slice none 0 0, .bool false, .slice none 0 0, .slice none 0 0, .string ⟨#[]⟩, .int .i64 0], []⟩ 8 (by kernel_rfl) (by kernel_rfl) (by kernel_rfl) (by kernel_rfl)) ?_
  intro W base args ds gs before hval0 hW hcnd _
  have hval : ∀ (j : Nat) t v, Yba.f3.params[j]? = some t → args[j]? = some v → Value.okWide Yba.prog W .any base t v := hval0
  have hW' := hW
  obtain ⟨p, q, hA0, hV, rfl, hfz, hnd⟩ := hW
  have hA : DataW.TrodAll enc Yba.prog W 0 (fun _ => true) true Yba.f3.params.toList args.toList ds p := hA0
  rw [Yba.params3] at hA hval
  obtain ⟨v0, vs0, d0, ds0, p0, q0, hargs, rfl, rfl, h0, r0⟩ := trodAll_cons hA
  obtain ⟨v1, vs1, d1, ds1, p1, q1, rfl, rfl, rfl, h1, r1⟩ := trodAll_cons r0
  obtain ⟨v2, vs2, d2, ds2, p2, q2, rfl, rfl, rfl, h2, r2⟩ := trodAll_cons r1
  obtain ⟨v3, vs3, d3, ds3, p3, q3, rfl, rfl, rfl, h3, r3⟩ := trodAll_cons r2
  obtain ⟨v4, vs4, d4, ds4, p4, q4, rfl, rfl, rfl, h4, r4⟩ := trodAll_cons r3
  obtain ⟨v5, vs5, d5, ds5, p5, q5, rfl, rfl, rfl, h5, r5⟩ := trodAll_cons r4
  obtain ⟨v6, vs6, d6, ds6, p6, q6, rfl, rfl, rfl, h6, r6⟩ := trodAll_cons r5
  obtain ⟨v7, vs7, d7, ds7, p7, q7, rfl, rfl, rfl, h7, r7⟩ := trodAll_cons r6
  obtain ⟨v8, vs8, d8, ds8, p8, q8, rfl, rfl, rfl, h8, r8⟩ := trodAll_cons r7
  obtain ⟨rfl, rfl, rfl⟩ := trodAll_nil r8
  obtain rfl : args = #[v0, v1, v2, v3, v4, v5, v6, v7, v8] := by cases args; simp_all
  obtain ⟨rfl, rfl⟩ := trodVars_none hV
  obtain ⟨a0, rfl, rfl, rfl, w0⟩ := open_int Yba.underlying22 (hval 0 22 v0 rfl rfl) h0
  obtain ⟨a1, len1, cap1, rfl⟩ := okWide_slice Yba.underlying23 (hval 1 23 v1 rfl rfl)
  have k1 := h1
  have lt1 : ∀ x ∈ p1, x.block < W.heap.size := by obtain ⟨m, hm⟩ := k1; exact DataW.trod_lt m _ _ _ hm
  obtain ⟨zs, rfl, hms⟩ : ∃ zs : List ZM, zs.length = len1 ∧ MsIn W a1 zs := by
    obtain ⟨fuel, hf⟩ := h1
    exact ms_of (by simpa [Value.cells] using hf)
  obtain ⟨a2, rfl, rfl, rfl, w2⟩ := open_int Yba.underlying5 (hval 2 5 v2 rfl rfl) h2
  obtain ⟨a3, len3, cap3, rfl⟩ := okWide_slice Yba.underlying24 (hval 3 24 v3 rfl rfl)
  have k3 := h3
  have lt3 : ∀ x ∈ p3, x.block < W.heap.size := by obtain ⟨m, hm⟩ := k3; exact DataW.trod_lt m _ _ _ hm
  obtain ⟨ps, rfl, hps⟩ : ∃ ps : List ZP, ps.length = len3 ∧ PsIn W a3 ps := by
    obtain ⟨fuel, hf⟩ := h3
    exact ps_of (by simpa [Value.cells] using hf)
  obtain ⟨a4, rfl, rfl, rfl⟩ := open_bool Yba.underlying4 (hval 4 4 v4 rfl rfl) h4
  obtain ⟨a5, len5, cap5, rfl⟩ := okWide_slice Yba.underlying25 (hval 5 25 v5 rfl rfl)
  have k5 := h5
  have lt5 : ∀ x ∈ p5, x.block < W.heap.size := by obtain ⟨m, hm⟩ := k5; exact DataW.trod_lt m _ _ _ hm
  obtain ⟨_, za, rfl, hza⟩ : len5 ≤ maxLen ∧ ∃ za : List Nat, za.length = len5 ∧ BytesIn W a5 za := by
    obtain ⟨fuel, hf⟩ := h5
    exact bytes_of (by simpa [Value.cells] using hf)
  obtain ⟨a6, len6, cap6, rfl⟩ := okWide_slice Yba.underlying25 (hval 6 25 v6 rfl rfl)
  have k6 := h6
  have lt6 : ∀ x ∈ p6, x.block < W.heap.size := by obtain ⟨m, hm⟩ := k6; exact DataW.trod_lt m _ _ _ hm
  obtain ⟨_, zb, rfl, hzb⟩ : len6 ≤ maxLen ∧ ∃ zb : List Nat, zb.length = len6 ∧ BytesIn W a6 zb := by
    obtain ⟨fuel, hf⟩ := h6
    exact bytes_of (by simpa [Value.cells] using hf)
  obtain ⟨a7, rfl, rfl, rfl, w7⟩ := open_string Yba.underlying9 (hval 7 9 v7 rfl rfl) h7
  obtain ⟨a8, rfl, rfl, rfl, w8⟩ := open_int Yba.underlying2 (hval 8 2 v8 rfl rfl) h8
  clear hA0 hval0
  have walk : Calls Yba.prog 3 #[.int .u64 a0, .slice a1 zs.length cap1, .int .u8 a2, .slice a3 ps.length cap3, .bool a4, .slice a5 za.length cap5, .slice a6 zb.length cap6, .string a7, .int .i64 a8] W fun e w' => e = .returned (.bool true) ∧ Below W.heap.size W w' := by
    by_cases hL : zs.length ≤ 300 ∧ ps.length ≤ 300 ∧ za.length ≤ 300 ∧ zb.length ≤ 300
    · exact law_any a0 a1 zs cap1 a2 a3 ps cap3 a4 a5 za cap5 a6 zb cap6 a7 a8 W hms hps hza hzb hL.1 hL.2.1 hL.2.2.1 hL.2.2.2 (u8_bounds w2).1 (u8_bounds w2).2 (i64_bounds w8).1 (i64_bounds w8).2
    · exact walkLong a0 a1 zs.length cap1 a2 a3 ps.length cap3 a4 a5 za.length cap5 a6 zb.length cap6 a7 a8 W hL
  refine walk.mono fun e W' ⟨he, bel⟩ => ?_
  subst he
  exact ⟨_, rfl, _, _, _, [], _, [], hW', trodAll_mk1 (shut_bool Yba.underlying4 _), (trodAll_cons_mk (shut_int Yba.underlying22 w0) (trodAll_cons_mk (Below.trod laidOut (by kernel_rfl) (of_decide_eq_true (by kernel_rfl)) k1 bel lt1) (trodAll_cons_mk (shut_int Yba.underlying5 w2) (trodAll_cons_mk (Below.trod laidOut (by kernel_rfl) (of_decide_eq_true (by kernel_rfl)) k3 bel lt3) (trodAll_cons_mk (shut_bool Yba.underlying4 _) (trodAll_cons_mk (Below.trod laidOut (by kernel_rfl) (of_decide_eq_true (by kernel_rfl)) k5 bel lt5) (trodAll_cons_mk (Below.trod laidOut (by kernel_rfl) (of_decide_eq_true (by kernel_rfl)) k6 bel lt6) (trodAll_cons_mk (shut_string Yba.underlying9 w7) (trodAll_cons_mk (shut_int Yba.underlying2 w8) trodAll_mk0))))))))), rfl, bel.frame _, fun h => by cases h⟩

theorem over : Rows.lawS3987AProposesRow.holds Yba.pinned (OpenSpec.ofChange Rows.lawS3987AProposesSpec) :=
  OpenClaim.holds_of_wide 3 Yba.f3 rfl rfl rfl rfl rfl rfl rfl ⟨rfl, rfl, rfl, rfl, rfl⟩ rfl rfl rfl rfl rfl (by kernel_rfl) Yba.func3 (by kernel_rfl)
    (of_decide_eq_true (by kernel_rfl)) (by unfold Func.isWrapper; first | (rw [if_pos (by decide +kernel)]; kernel_rfl) | (rw [if_neg (by decide +kernel)]; exact ⟨rfl, rfl⟩))
    (fun os started H enc _ => lifted os started H enc)

theorem proved : Rows.LawS3987AProposesSaid := over
end Go.Proofs.Ybulkcdnw.lawS3987AProposes
