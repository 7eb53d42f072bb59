/-
  Parts for the walk of the law Built.
-/
import Derived.Test.YbulkcdqoFmtWalkC
import Derived.Lib.AppendStr
import Derived.OwnWalk
import Derived.Laws.AppendOwn
import Derived.Below
import Derived.Deep.AppendLies
import Derived.Deep.RegionLaw
import Derived.Deep.RegionHeld3
namespace Go.Proofs.YbulkcdqoFmt
open Go.RowKit Go.Extern.Stop Go.Stop Go.Extern
set_option maxRecDepth 100000
set_option linter.unusedSimpArgs false
set_option linter.unusedVariables false


theorem Ybaf.info5x : (Ybaf.prog.info? 5).map (fun i => (i.zero, i.size, i.bytes)) = some (some (.int .u8 0), 1, 1) := by kernel_rfl

/-- Bytes as cells. -/
def bl (l : List UInt8) : List Value := l.map fun b => Value.int .u8 b.toNat
theorem bl_length (l : List UInt8) : (bl l).length = l.length := by simp [bl]

/-- What holds between rounds: the buffer's bytes; f: is a foreign byte among them? -/
def BI (w wr : World) (o : Nat) (bs : ByteArray) (v : Value) (f : Bool) (N : Nat) : Prop :=
  ∃ l : List UInt8, wr.ownsRow (w.heap.size + 1) 5 1 v l.length (bl l) ∧ l.length ≤ N ∧ Below w.heap.size w wr ∧ w.heap.size + 1 ≤ wr.heap.size ∧ wr.cell? ⟨w.heap.size, o, none⟩ = some (.string bs) ∧
    (f = true → ∃ b ∈ l, okN (b.toNat : Nat) = false) ∧ (f = false → ∀ b ∈ l, okN (b.toNat : Nat) = true)

theorem own_ge {w : World} {base : Nat} {v : Value} {n : Nat} {xs : List Value} (h : w.ownsRow base 5 1 v n xs) : ∀ k, v.ownBlock = some k → base ≤ k := by
  intro k hk
  rcases h.2 with ⟨rfl, _⟩ | ⟨g, cap, cur, rfl, hb, _⟩
  · simp [Value.ownBlock] at hk
  · have : g = k := by simpa [Value.ownBlock] using hk
    omega

/-- A foreign piece is laid behind. -/
theorem step_bad {w wr w1 : World} {o : Nat} {bs : ByteArray} {v v' : Value} {N : Nat} {l : List UInt8}
    (hown : wr.ownsRow (w.heap.size + 1) 5 1 v l.length (bl l)) (hl : l.length ≤ N) (hB : Below w.heap.size w wr) (hsz : w.heap.size + 1 ≤ wr.heap.size) (hc : wr.cell? ⟨w.heap.size, o, none⟩ = some (.string bs))
    (hown' : w1.ownsRow (w.heap.size + 1) 5 1 v' (l.length + bs.size) (bl l ++ Lib.strCells bs)) (hg : wr.grownBy w1 v.ownBlock)
    (hb2 : bs.size ≤ 2) (hbb : ∃ b ∈ bs.data.toList, okN (b.toNat : Nat) = false) : BI w w1 o bs v' true (N + 2) := by
  refine ⟨l ++ bs.data.toList, ?_, ?_, ?_, ?_, ?_, ?_, ?_⟩
  · have e1 : (l ++ bs.data.toList).length = l.length + bs.size := by rw [List.length_append, Array.length_toList]; rfl
    have e2 : bl (l ++ bs.data.toList) = bl l ++ Lib.strCells bs := by simp [bl, Lib.strCells]
    rw [e1, e2]
    exact hown'
  · have e1 : (l ++ bs.data.toList).length = l.length + bs.size := by rw [List.length_append, Array.length_toList]; rfl
    omega
  · exact hB.grown hg (by omega) (fun k hk => by have := own_ge hown k hk; omega)
  · exact Nat.le_trans hsz hg.size
  · rw [← hc]
    exact hg.cell_far _ (by show w.heap.size < _; omega) (fun e => by have := own_ge hown w.heap.size e.symm; omega)
  · rintro _
    obtain ⟨b, h1, h2⟩ := hbb
    exact ⟨b, List.mem_append_right _ h1, h2⟩
  · intro h; cases h

/-- A byte of the alphabet is laid behind. -/
theorem step_ok {w wr w1 : World} {C : Array Value} {o : Nat} {bs : ByteArray} {v v' : Value} {f : Bool} {N : Nat} {l : List UInt8} {c : UInt8}
    (hown : wr.ownsRow (w.heap.size + 1) 5 1 v l.length (bl l)) (hl : l.length ≤ N) (hB : Below w.heap.size w wr) (hsz : w.heap.size + 1 ≤ wr.heap.size) (hc : wr.cell? ⟨w.heap.size, o, none⟩ = some (.string bs))
    (hf1 : f = true → ∃ b ∈ l, okN (b.toNat : Nat) = false) (hf0 : f = false → ∀ b ∈ l, okN (b.toNat : Nat) = true)
    (hown' : w1.ownsRow (w.heap.size + 1) 5 1 v' (l.length + 1) (bl l ++ [.int .u8 (c.toNat : Nat)])) (hg : (wr.alloc (.cells C 5)).grownBy w1 v.ownBlock)
    (hok : okN (c.toNat : Nat) = true) : BI w w1 o bs v' f (N + 1) := by
  have hz := hg.size
  simp at hz
  refine ⟨l ++ [c], ?_, ?_, ?_, ?_, ?_, ?_, ?_⟩
  · have e1 : (l ++ [c]).length = l.length + 1 := by simp
    have e2 : bl (l ++ [c]) = bl l ++ [.int .u8 (c.toNat : Nat)] := by simp [bl]
    rw [e1, e2]
    exact hown'
  · simp; omega
  · exact (hB.alloc (by omega) _).grown hg (by simp; omega) (fun k hk => by have := own_ge hown k hk; omega)
  · omega
  · rw [← hc]
    rw [hg.cell_far ⟨w.heap.size, o, none⟩ (by simp; omega) (fun e => by have := own_ge hown w.heap.size e.symm; omega)]
    rw [World.cell?, World.cell?]
    rw [show (wr.alloc (.cells C 5)).heap[w.heap.size]? = wr.heap[w.heap.size]? from Below.heap_alloc _ _ _ (by omega)]
  · intro h
    obtain ⟨b, h1, h2⟩ := hf1 h
    exact ⟨b, List.mem_append_left _ h1, h2⟩
  · intro h b hb
    rcases List.mem_append.1 hb with h1 | h1
    · exact hf0 h b h1
    · simp at h1; subst h1; exact hok

/-- 'string(buf)'. -/
theorem own_string {w : World} {base : Nat} {v : Value} {l : List UInt8} (h : w.ownsRow base 5 1 v l.length (bl l)) : (convert 27 9 v).run Ybaf.prog w = .ok (.string ⟨l.toArray⟩) w := by
  rcases h.2 with ⟨rfl, h0⟩ | ⟨g, cap, cur, rfl, hb, hg, hn, _, hcs, htake⟩
  · have : l = [] := List.length_eq_zero_iff.1 h0
    subst this
    rw [run_convert_bytes_string w 27 9 5 none 0 0 Ybaf.underlying27 Ybaf.underlying5 Ybaf.underlying9]
    rfl
  · refine run_convert_bytes_back w 27 9 5 ⟨g, 0, none⟩ cap l Ybaf.underlying27 Ybaf.underlying5 Ybaf.underlying9 (fun j hj => ?_)
    rw [Addr.add_lit, World.cell?]
    simp only [hg, Nat.zero_add]
    have h1 : (cur.toList.take (l.length * 1))[j]? = cur.toList[j]? := by rw [List.getElem?_take_of_lt (by omega)]
    have h2 : (bl l)[j]? = some (.int .u8 (l[j].toNat : Int)) := by simp [bl, hj]
    rw [htake, h2] at h1
    rw [← Array.getElem?_toList]
    exact h1.symm

/-- The twelve foreign pieces. -/
def bads : List ByteArray := [⟨#[97]⟩, ⟨#[122]⟩, ⟨#[32]⟩, ⟨#[45]⟩, ⟨#[47]⟩, ⟨#[62]⟩, ⟨#[195, 169]⟩, ⟨#[255]⟩, ⟨#[0]⟩, ⟨#[59]⟩, ⟨#[64]⟩, ⟨#[91]⟩]
theorem bads_bad (j : Nat) (h : j < 12) : (bads.getD j default).size ≤ 2 ∧ ∃ b ∈ (bads.getD j default).data.toList, okN (b.toNat : Nat) = false := by
  match j, h with
  | 0, _ => exact ⟨by decide, 97, by decide, by decide⟩
  | 1, _ => exact ⟨by decide, 122, by decide, by decide⟩
  | 2, _ => exact ⟨by decide, 32, by decide, by decide⟩
  | 3, _ => exact ⟨by decide, 45, by decide, by decide⟩
  | 4, _ => exact ⟨by decide, 47, by decide, by decide⟩
  | 5, _ => exact ⟨by decide, 62, by decide, by decide⟩
  | 6, _ => exact ⟨by decide, 195, by decide, by decide⟩
  | 7, _ => exact ⟨by decide, 255, by decide, by decide⟩
  | 8, _ => exact ⟨by decide, 0, by decide, by decide⟩
  | 9, _ => exact ⟨by decide, 59, by decide, by decide⟩
  | 10, _ => exact ⟨by decide, 64, by decide, by decide⟩
  | 11, _ => exact ⟨by decide, 91, by decide, by decide⟩

/-- The alphabet. -/
def alpha : ByteArray := ⟨#[48, 49, 50, 51, 52, 53, 54, 55, 56, 57, 65, 66, 67, 68, 69, 70, 71, 72, 73, 74, 75, 76, 77, 78, 79, 80, 81, 82, 83, 84, 85, 86, 87, 88, 89, 90, 60]⟩
theorem alpha_ok (j : Nat) (h : j < 37) : okN ((alpha.get! j).toNat : Nat) = true := by
  have : ∀ j : Fin 37, okN ((alpha.get! j.1).toNat : Nat) = true := by decide
  exact this ⟨j, h⟩

end Go.Proofs.YbulkcdqoFmt
