/-
  The names that the law makes up.
-/
import Derived.Test.YbulkcdnwA0
import Derived.Laws.IdiomStrings
namespace Go.Proofs.Ybulkcdnw
open Go.RowKit
set_option maxRecDepth 100000
set_option linter.unusedSimpArgs false
set_option linter.unusedVariables false
theorem info5x : (Yba.prog.info? 5).map (fun i => (i.zero, i.size, i.bytes)) = some (some (.int .u8 0), 1, 1) := by kernel_rfl

/-- The letters of the i-th name (i < 676). -/
def nmI (i : Nat) : List Nat := if i < 26 then [109, 97 + i] else [109, 97 + i % 26, 97 + i / 26]
def nmS (i : Nat) : ByteArray := ⟨((nmI i).map fun z => UInt8.ofNat z).toArray⟩
def byC (l : List Nat) : List Value := l.map fun z => .int .u8 (z : Nat)

theorem nm_inj {i j : Nat} (hi : i < 676) (hj : j < 676) (h : (nmS i).toList = (nmS j).toList) : i = j := by
  have h1 : ((nmI i).map fun z => UInt8.ofNat z) = ((nmI j).map fun z => UInt8.ofNat z) := by
    have e : ∀ l : List UInt8, (⟨l.toArray⟩ : ByteArray).toList = l := fun l => by
      rw [ByteArray.toList_eq]
    simpa [nmS, e] using h
  unfold nmI at h1
  split at h1 <;> split at h1 <;> simp at h1
  · have := congrArg UInt8.toNat h1; simp at this; omega
  · obtain ⟨a, b⟩ := h1
    have a' := congrArg UInt8.toNat a
    have b' := congrArg UInt8.toNat b
    simp at a' b'; omega

theorem conv_own {w : World} {base : Nat} {v : Value} {l : List Nat} (h : w.ownsRow base 5 1 v l.length (byC l)) (hl : ∀ z ∈ l, z < 256) :
    (convert 25 9 v).run Yba.prog w = .ok (.string ⟨(l.map fun z => UInt8.ofNat z).toArray⟩) w := by
  obtain ⟨ao, cap, rfl, hg⟩ := own_shape (own_base h (Nat.zero_le _))
  by_cases h0 : 0 < l.length
  · obtain ⟨b, rfl, hb, hc⟩ := hg h0
    have h := run_convert_bytes_back (P := Yba.prog) w 25 9 5 ⟨b, 0, none⟩ cap (l.map fun z => UInt8.ofNat z) Yba.underlying25 Yba.underlying5 Yba.underlying9 (fun j hj => by
      have hj' : j < l.length := by simpa using hj
      rw [Addr.add_lit, Nat.zero_add, hc j (.int .u8 (l[j] : Nat)) (by simp [byC, hj'])]
      have := hl _ (List.getElem_mem hj')
      simp
      omega)
    simpa using h
  · have e : l = [] := by cases l <;> simp_all
    subst e
    rcases h.2 with ⟨h1, _⟩ | ⟨g, cap', cur, h1, _⟩
    · rw [h1, run_convert_bytes_string w 25 9 5 none 0 0 Yba.underlying25 Yba.underlying5 Yba.underlying9]
      rfl
    · simp at h1
      obtain ⟨rfl, rfl⟩ := h1
      have h := run_convert_bytes_back (P := Yba.prog) w 25 9 5 ⟨g, 0, none⟩ cap [] Yba.underlying25 Yba.underlying5 Yba.underlying9 (fun j hj => absurd hj (Nat.not_lt_zero _))
      simpa using h

theorem blk_owns {w : World} {b base e size n : Nat} {N : Array Value} (h : Blk w b e N) (hb : base ≤ b) (hn : n ≤ maxLen) (hs : N.size = n * size) : w.ownsRow base e size (.slice (some ⟨b, 0, none⟩) n n) n N.toList :=
  ⟨by simpa using hs, .inr ⟨b, n, N, rfl, hb, h, Nat.le_refl _, hn, hs, by rw [List.take_of_length_le (by simp; omega)]⟩⟩

/-- The state of the loop. -/
def NmR (w : World) (i : Nat) (n : Nat) (b : Value) (wr : World) : Prop :=
  ∃ l : List Nat, wr.ownsRow w.heap.size 5 1 b l.length (byC l) ∧ Below w.heap.size w wr ∧ w.heap.size ≤ wr.heap.size ∧ ((l = [109] ∧ n = i) ∨ (26 ≤ i ∧ l = [109, 97 + i % 26] ∧ n = i / 26))

theorem cells_new (w : World) (l : List Value) (t : TypeId) (j : Nat) (u : Value) (h : l[j]? = some u) : (w.alloc (.cells l.toArray t)).cell? ((⟨w.heap.size, 0, none⟩ : Addr).add j) = some u := by
  have hb := Blk.new w t l.toArray
  rw [Addr.add_lit, hb.cell]
  simpa using h
theorem own_ge {w : World} {base : Nat} {e : TypeId} {s : Nat} {v : Value} {n : Nat} {xs : List Value} (h : w.ownsRow base e s v n xs) : ∀ k, v.ownBlock = some k → base ≤ k := by
  intro k hk
  rcases h.2 with ⟨rfl, _⟩ | ⟨g, cap, cur, rfl, hb, _⟩
  · simp [Value.ownBlock] at hk
  · have : g = k := by simpa [Value.ownBlock] using hk
    omega

theorem nm_step {w wr w2 : World} {i n : Nat} {l : List Nat} {b v2 : Value} {o : Obj} (h : wr.ownsRow w.heap.size 5 1 b l.length (byC l) ∧ Below w.heap.size w wr ∧ ((l = [109] ∧ n = i) ∨ (26 ≤ i ∧ l = [109, 97 + i % 26] ∧ n = i / 26))) (hsz : w.heap.size ≤ wr.heap.size) (hi : i < 676)
    (ho : w2.ownsRow w.heap.size 5 1 v2 (l.length + 1) (byC l ++ [.int .u8 (97 + (n : Int) % 26)])) (hg : (wr.alloc o).grownBy w2 b.ownBlock) :
    (n < 26 → w2.ownsRow w.heap.size 5 1 v2 (nmI i).length (byC (nmI i)) ∧ Below w.heap.size w w2 ∧ (convert 25 9 v2).run Yba.prog w2 = .ok (.string (nmS i)) w2) ∧ (¬ n < 26 → NmR w i (n / 26) v2 w2) := by
  obtain ⟨h1, h2, h3⟩ := h
  have hB : Below w.heap.size w w2 := (h2.alloc hsz o).grown hg (by simp; omega) (own_ge h1)
  have ho' : w2.ownsRow w.heap.size 5 1 v2 (l ++ [97 + n % 26]).length (byC (l ++ [97 + n % 26])) := by
    have e : (97 + (n : Int) % 26) = ((97 + n % 26 : Nat) : Int) := by omega
    rw [e] at ho
    unfold byC at ho ⊢
    rw [List.map_append, List.length_append]
    exact ho
  have hs2 : w.heap.size ≤ w2.heap.size := hB.size
  refine ⟨fun hn => ?_, fun hn => ?_⟩
  · have e : l ++ [97 + n % 26] = nmI i := by
      rcases h3 with ⟨rfl, rfl⟩ | ⟨hh, rfl, rfl⟩
      · unfold nmI; rw [if_pos hn]; simp; omega
      · unfold nmI; rw [if_neg (by omega)]; simp; omega
    rw [e] at ho'
    refine ⟨ho', hB, conv_own ho' ?_⟩
    intro z hz
    unfold nmI at hz
    split at hz <;> simp at hz <;> omega
  · rcases h3 with ⟨rfl, rfl⟩ | ⟨hh, rfl, rfl⟩
    · exact ⟨_, ho', hB, hs2, Or.inr ⟨by omega, rfl, rfl⟩⟩
    · omega

set_option maxHeartbeats 1000000 in
theorem name_any (i : Nat) (hi : i < 676) (w : World) :
    Calls Yba.prog 6 #[.int .i64 i] w fun e w' => e = .returned (.string (nmS i)) ∧ Below w.heap.size w w' := by
  obtain ⟨i0, hii, hz0, hz1, hz2⟩ := info_parts info5x
  have HI := Shy.mk hi
  go_enter Yba.func6, Yba.ntmps6
  go_wp2
  go_loopw [0, 3] (fun x b wr => ∃ n : Nat, x = .int .i64 n ∧ Shy (NmR w i n b wr)) (fun x _ _ => (intOf x).toNat)
  case atStart =>
    refine ⟨i, rfl, ⟨[109], ?_, (Below.refl _ _).alloc (Nat.le_refl _) _, by simp, Or.inl ⟨rfl, rfl⟩⟩⟩
    exact blk_owns (Blk.new w 5 #[.int .u8 109]) (Nat.le_refl _) (by decide) rfl
  case round =>
    obtain ⟨n, rfl, hinv⟩ := hrel
    obtain ⟨l, ho, hb, hsz, hc⟩ := hinv.out
    have hn : n ≤ i := by rcases hc with ⟨_, rfl⟩ | ⟨_, _, rfl⟩ <;> omega
    have hll : l.length ≤ 2 := by rcases hc with ⟨rfl, _⟩ | ⟨_, rfl, _⟩ <;> simp
    have HX := Shy.mk (And.intro ho (And.intro hb hc))
    have hm : 0 ≤ (n : Int) % 26 := by omega
    have hm2 : (n : Int) % 26 < 26 := by omega
    clear hb hc hinv
    go_wp2_with (at_builtin; refine wpList_append_own _ rfl (.tmp 5) (.tmp 10) 25 rfl w.heap.size 5 i0 (.int .u8 0) 1 1 Yba.underlying25 hii hz0 hz1 hz2 rfl (by decide) _ _ _ rfl (ho.alloc _) ⟨wr.heap.size, 0, none⟩ 1 1 [.int .u8 (97 + (n : Int) % 26)] rfl rfl ?c1 ?c2 ?c3 ?c4 ?c5 ?_)
    case c1 => exact cells_new _ _ _
    case c2 => intro u hu; simp at hu; subst hu; rfl
    case c3 => unfold maxLen; omega
    case c4 => omega
    case c5 => simp; omega
    intro v2 w2 hown2 hgrow2 _
    have HS := Shy.mk (nm_step HX.out hsz hi hown2 hgrow2)
    clear hown2 hgrow2 ho HX
    by_cases h26 : n < 26
    · have hq : (n : Int) / 26 = 0 := by omega
      obtain ⟨hown, hbel, hconv⟩ := HS.out.1 h26
      have HB := Shy.mk hbel
      clear hown hbel
      go_wp2
      go_ret
      exact ⟨rfl, HB.out⟩
    · have hq : ¬ (n : Int) / 26 = 0 := by omega
      go_wp2
      go_roundw
      case rel => exact ⟨n / 26, by rw [Int.natCast_ediv]; rfl, ⟨HS.out.2 h26⟩⟩
      case measure => simp [intOf]; omega
end Go.Proofs.Ybulkcdnw
