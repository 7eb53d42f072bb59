/-
  Maps from identities to true.
-/
import Derived.Test.YbulkcdnwA2
import Derived.MapKept
import Derived.WideKeyRuns
namespace Go.Proofs.Ybulkcdnw
open Go.RowKit
set_option maxRecDepth 100000
set_option linter.unusedSimpArgs false
set_option linter.unusedVariables false

def keyV (p : ByteArray × Int) : Value := .agg #[.string p.1, .int .u64 p.2]
def entOf (p : ByteArray × Int) (i : Nat) : MapEntry := { key := keyV p, val := .bool true, born := i }
def ents : List (ByteArray × Int) → Nat → List MapEntry
  | [], _ => []
  | p :: l, i => entOf p i :: ents l (i + 1)
def sameId (p q : ByteArray × Int) : Bool := p.1.toList == q.1.toList && p.2 == q.2
def hasK (ks : List (ByteArray × Int)) (p : ByteArray × Int) : Bool := ks.any (sameId p)
/-- Block b is a map with just these keys, each true. -/
def Mp (w : World) (b : Nat) (ks : List (ByteArray × Int)) : Prop := w.heap[b]? = some (.map (ents ks 0).toArray ks.length)

theorem run_equal33 (p q : ByteArray × Int) (w : World) : (Op.equal 33 (keyV p) (keyV q)).run Yba.prog w = .ok (sameId p q) w := by
  unfold keyV sameId
  by_cases h1 : p.1.toList = q.1.toList <;> by_cases h2 : p.2 = q.2 <;> simp [Op.equal, Op.maxDepth, go_sem, Yba.underlying33, Yba.underlying9, Yba.underlying22, h1, h2]

theorem run_check33 (e : Bool) (p : ByteArray × Int) (w : World) : (Instr.checkKey e 10000 33 (keyV p)).run Yba.prog w = .ok () w := by
  unfold keyV
  show (Instr.checkKey e (9998 + 1 + 1) 33 _).run Yba.prog w = _
  unfold Instr.checkKey
  simp only [Sem.run_bind, run_underlying Yba.underlying33, Result.andThen_ok]
  have c1 : ∀ s, (Instr.checkKey e 9999 9 (.string s)).run Yba.prog w = .ok () w := fun s => MapKept.run_checkKey Yba.underlying9 (by trivial) e 9998
  have c2 : ∀ s, (Instr.checkKey e 9999 22 (.int .u64 s)).run Yba.prog w = .ok () w := fun s => MapKept.run_checkKey Yba.underlying22 (by trivial) e 9998
  simp [go_sem, c1, c2, Yba.underlying9, Yba.underlying22]
theorem run_asking (p : ByteArray × Int) (w : World) : ∀ (ks : List (ByteArray × Int)) (i j : Nat), ∃ r, (Instr.findAsking 33 (keyV p) (ents ks j) i).run Yba.prog w = .ok r w ∧ (hasK ks p = true → ∃ n, r = some (n, .bool true)) ∧ (hasK ks p = false → r = none)
  | [], i, j => ⟨none, rfl, fun h => by simp [hasK] at h, fun _ => rfl⟩
  | q :: ks, i, j => by
    obtain ⟨r, h1, h2, h3⟩ := run_asking p w ks (i + 1) (j + 1)
    simp only [ents, Instr.findAsking, Sem.run_bind, entOf, run_equal33, Result.andThen_ok]
    by_cases h : sameId p q = true
    · exact ⟨some (i, .bool true), by simp [h], fun _ => ⟨i, rfl⟩, fun hf => by simp [hasK, h] at hf⟩
    · have h' : sameId p q = false := by simpa using h
      refine ⟨r, by simp [h', h1], fun ht => h2 (by simpa [hasK, h'] using ht), fun hf => h3 (by simpa [hasK, h'] using hf)⟩

theorem run_find (p : ByteArray × Int) (ks : List (ByteArray × Int)) (w : World) : ∃ r, (Instr.findKey 33 (keyV p) (ents ks 0)).run Yba.prog w = .ok r w ∧ (hasK ks p = true → ∃ n, r = some (n, .bool true)) ∧ (hasK ks p = false → r = none) := by
  rw [run_findKey_eq w (by rw [Yba.underlying33])]
  exact run_asking p w ks 0 0

theorem lk44 {w : World} {b : Nat} {ks : List (ByteArray × Int)} (h : Mp w b ks) (a : ByteArray) (x : Int) : (Instr.lookup 44 (.map (some b)) (.agg #[.string a, .int .u64 x]) false).run Yba.prog w = .ok (.bool (hasK ks (a, x))) w := by
  obtain ⟨r, h1, h2, h3⟩ := run_find (a, x) ks w
  have hc := run_check33 (ents ks 0).toArray.isEmpty (a, x) w
  unfold keyV at h1 hc
  unfold Instr.lookup
  simp only [Sem.run_bind, run_underlying Yba.underlying44, Result.andThen_ok, run_getObj_map w b _ _ h, Sem.run_pure, hc, h1]
  cases hk : hasK ks (a, x) with
  | true =>
    obtain ⟨n, rfl⟩ := h2 hk
    simp
  | false =>
    rw [h3 hk]
    simp [go_sem]
theorem ents_snoc (q : ByteArray × Int) : ∀ (ks : List (ByteArray × Int)) (i : Nat), ents (ks ++ [q]) i = ents ks i ++ [entOf q (i + ks.length)]
  | [], i => rfl
  | p :: ks, i => by
    simp only [List.cons_append, ents, ents_snoc q ks (i + 1), List.length_cons]
    rw [show i + 1 + ks.length = i + (ks.length + 1) from by omega]

/-- The map's block set anew. -/
def World.mapSet (w : World) (b : Nat) (ks : List (ByteArray × Int)) : World := { w with heap := w.heap.setIfInBounds b (.map (ents ks 0).toArray ks.length) }
theorem up44 {w : World} {b : Nat} {ks : List (ByteArray × Int)} (h : Mp w b ks) (a : ByteArray) (x : Int) (hf : hasK ks (a, x) = false) : (Instr.mapUpdate 44 (.map (some b)) (.agg #[.string a, .int .u64 x]) (.bool true)).run Yba.prog w = .ok () (World.mapSet w b (ks ++ [(a, x)])) := by
  obtain ⟨r, h1, h2, h3⟩ := run_find (a, x) ks w
  have hc := run_check33 false (a, x) w
  unfold keyV at h1 hc
  rw [h3 hf] at h1
  unfold Instr.mapUpdate
  simp only [Sem.run_bind, run_underlying Yba.underlying44, Result.andThen_ok, run_getObj_map w b _ _ h, Sem.run_pure, hc, h1]
  rw [MapKept.run_setObj_map _ h]
  simp [World.mapSet, ents_snoc, entOf, keyV]
theorem Mp.set {w : World} {b : Nat} {ks ks' : List (ByteArray × Int)} (h : Mp w b ks) : Mp (World.mapSet w b ks') b ks' := by
  have hlt := (Array.getElem?_eq_some_iff.1 h).1
  show (w.heap.setIfInBounds b _)[b]? = _
  simp [hlt]
theorem kept_mapSet {p : Nat → Prop} {a w : World} (h : Kept p a w) {b : Nat} (hb : ¬ p b) (ks : List (ByteArray × Int)) : Kept p a (World.mapSet w b ks) :=
  h.trans ⟨rfl, rfl, rfl, by simp [World.mapSet], fun k _ hk => by
    show (w.heap.setIfInBounds b _)[k]? = _
    rw [Array.getElem?_setIfInBounds, if_neg (fun (e : b = k) => hb (by rw [e]; exact hk))]⟩
theorem Mp.kept {w w' : World} {b : Nat} {ks : List (ByteArray × Int)} {p : Nat → Prop} (h : Mp w b ks) (k : Kept p w w') (hp : p b) : Mp w' b ks := (k.block b (Array.getElem?_eq_some_iff.1 h).1 hp).trans h
theorem Mp.lt {w : World} {b : Nat} {ks : List (ByteArray × Int)} (h : Mp w b ks) : b < w.heap.size := (Array.getElem?_eq_some_iff.1 h).1
theorem Mp.new (w : World) : Mp (w.alloc (.map #[] 0)) w.heap.size [] := heap_alloc_new w _
end Go.Proofs.Ybulkcdnw
