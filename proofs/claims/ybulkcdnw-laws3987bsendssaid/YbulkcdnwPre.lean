/-
  The envelopes that the law queues ahead: plain lists, no walk.
-/
import Derived.Test.YbulkcdnwSend
import Derived.Test.YbulkcdnwProbe
import Derived.Deep.MidRow
namespace Go.Proofs.Ybulkcdnw
open Go.RowKit

/-- What 'make([]Envelope, n)' lays. -/
def made83 (n : Nat) : Array Value := madeCells zero83.cells (n * 19)
theorem run_make83 (n : Nat) (hn : n ≤ 1000000) (w : World) : (Instr.makeSlice 67 (.int .i64 (n : Int)) (.int .i64 (n : Int))).run Yba.prog w = .ok (.slice (some ⟨w.heap.size, 0, none⟩) n n) (w.alloc (.cells (made83 n) 83)) := by
  obtain ⟨i, hi, hz0, hz1, hz2⟩ := info_parts info83
  have h := run_make (P := Yba.prog) w 67 83 i zero83 Yba.underlying67 hi hz0 .i64 .i64 (n : Int) (n : Int) (by omega) (by omega) (by rw [hz2]; omega) (by omega)
  rw [hz1] at h
  simp only [Int.toNat_natCast] at h
  exact h

/-- The envelope number i that was queued already. -/
def preEnv (i : Nat) : List Value := [.string (Utf8.encode (97 + i)), .string ⟨#[120]⟩, .string ⟨#[]⟩, .int .u64 0, .string ⟨#[]⟩, .slice none 0 0, .pointer none, .int .u64 i, .pointer none, .pointer none, .pointer none, .pointer none, .pointer none, .pointer none, .pointer none, .slice none 0 0, .map none, .string ⟨#[]⟩, .pointer none]
def preCells (n : Nat) : List Value := (List.range n).flatMap preEnv

/-- A block known whole is owned. -/
theorem Blk.owns {w : World} {b base e size n : Nat} {N : Array Value} (h : Blk w b e N) (hb : base ≤ b) (hn : n ≤ maxLen) (hs : N.size = n * size) : w.ownsRow base e size (.slice (some ⟨b, 0, none⟩) n n) n N.toList :=
  ⟨by simpa using hs, .inr ⟨b, n, N, rfl, hb, h, Nat.le_refl _, hn, hs, List.take_of_length_le (by rw [Array.length_toList, hs]; exact Nat.le_refl _)⟩⟩

theorem preCells_succ (k : Nat) : preCells (k + 1) = preCells k ++ preEnv k := by
  simp [preCells, List.range_succ]
theorem preCells_length (k : Nat) : (preCells k).length = k * 19 := by
  induction k with
  | zero => rfl
  | succ k ih => rw [preCells_succ, List.length_append, ih]; simp [preEnv]; omega
theorem made83_length (n : Nat) : (made83 n).toList.length = n * 19 := by simp [made83, size_madeCells]

/-- A run of cells stored into a block known whole. -/
theorem Blk.setCells {b : Nat} {t : TypeId} : ∀ (cs : List Value) (o : Nat) {w : World} {N : Array Value}, Blk w b t N → o + cs.length ≤ N.size →
    ∃ N', Blk (w.setCells b o cs) b t N' ∧ N'.toList = N.toList.take o ++ cs ++ N.toList.drop (o + cs.length)
  | [], o, w, N, h, _ => ⟨N, h, by simp⟩
  | v :: cs, o, w, N, h, hs => by
    simp only [List.length_cons] at hs
    obtain ⟨N', h1, h2⟩ := Blk.setCells cs (o + 1) (h.set o v) (by simp; omega)
    refine ⟨N', h1, ?_⟩
    rw [h2, Array.toList_setIfInBounds]
    have hl : o < N.toList.length := by simp; omega
    have e1 : (N.toList.set o v).take (o + 1) = N.toList.take o ++ [v] := by
      rw [List.take_set, List.take_succ_eq_append_getElem hl, List.set_append_right _ _ (by simp; omega)]
      have e0 : o - (N.toList.take o).length = 0 := by rw [List.length_take]; omega
      rw [e0]; rfl
    have e2 : (N.toList.set o v).drop (o + 1 + cs.length) = N.toList.drop (o + 1 + cs.length) := by
      rw [List.drop_set, if_pos (by omega)]
    rw [e1, e2]
    simp only [List.append_assoc, List.cons_append, List.nil_append, List.length_cons]
    rw [show o + 1 + cs.length = o + (cs.length + 1) from by omega]

theorem Blk.there {w : World} {b : Nat} {t : TypeId} {N : Array Value} (h : Blk w b t N) (o n : Nat) (hs : o + n ≤ N.size) : w.there b o n := fun j hj =>
  ⟨by rw [h.cell]; simp; omega, h.frozen _⟩
theorem below_setCells {B : Nat} {a : World} {b : Nat} (hb : B ≤ b) : ∀ (cs : List Value) (o : Nat) {w : World}, Below B a w → Below B a (w.setCells b o cs)
  | [], _, _, h => h
  | v :: cs, o, _, h => below_setCells hb cs (o + 1) (h.setCell hb v)
theorem Blk.setCellsOther {b c : Nat} {t : TypeId} {N : Array Value} (hbc : b ≠ c) : ∀ (cs : List Value) (o : Nat) {w : World}, Blk w b t N → Blk (w.setCells c o cs) b t N
  | [], _, _, h => h
  | v :: cs, o, _, h => Blk.setCellsOther hbc cs (o + 1) (h.setOther hbc v)

theorem preEnv_one (k : Nat) : (preEnv k).toArray.all (·.oneCell') = true := all_oneCell_toArray (by simp [preEnv, Value.oneCell'])

/-- One round of 'pre[i] = Envelope{..}'. -/
theorem pre_round {wr : World} {pb np k : Nat} {PA : Array Value} {R : List Value} (h : Blk wr pb 83 PA) (hP : PA.toList = preCells k ++ R) (hR : R.length = (np - k) * 19) (hk : k < np) :
    ∃ PA' R', Blk (wr.setCells pb (k * 19) (preEnv k)) pb 83 PA' ∧ PA'.toList = preCells (k + 1) ++ R' ∧ R'.length = (np - (k + 1)) * 19 := by
  have hsz : PA.size = k * 19 + (np - k) * 19 := by
    rw [← Array.length_toList, hP, List.length_append, preCells_length, hR]
  obtain ⟨N', h1, h2⟩ := Blk.setCells (preEnv k) (k * 19) h (by rw [hsz]; simp [preEnv]; omega)
  refine ⟨N', R.drop 19, h1, ?_, by rw [List.length_drop, hR]; omega⟩
  rw [h2, hP, preCells_succ]
  have e1 : (preCells k ++ R).take (k * 19) = preCells k := by rw [← preCells_length k]; exact List.take_left
  have e2 : (preCells k ++ R).drop (k * 19 + (preEnv k).length) = R.drop 19 := by
    rw [← preCells_length k, List.drop_append, List.drop_of_length_le (by omega), Nat.add_sub_cancel_left]; rfl
  rw [e1, e2]

/-- The node of the law, its queue of messages to send: sv. -/
def nodeArr (nm : ByteArray) (inc : Int) (sa st : ByteArray) (num : Int) (mb L : Nat) (gr : ByteArray) (sv : Value) : Array Value :=
  #[.string nm, .int .u64 inc, .string sa, .string ⟨#[]⟩, .string st,
    .int .i64 0, .int .i64 0, .int .i64 0, .int .i64 0, .int .u64 0, .int .i64 0, .pointer none, .int .i64 0,
    .int .u64 0, .int .i64 0, .pointer none, .int .u64 num, .slice (some ⟨mb, 0, none⟩) L L, .slice none 0 0,
    .slice none 0 0, .string gr, .bool false, .bool false, .map none, .bool false, .pointer none, .slice none 0 0, .slice none 0 0, .pointer none, .pointer none,
    .pointer none, .pointer none, .map none, .slice none 0 0, .slice none 0 0, .pointer none, .int .u64 0, .int .i64 0, .pointer none, .map none,
    .string ⟨#[]⟩, .int .u64 0, .string ⟨#[]⟩, .string ⟨#[]⟩, .int .u64 0, .int .i64 0, .pointer none, .int .u64 0, .int .i64 0, .pointer none,
    .string ⟨#[]⟩, .int .u64 0, .bool false, .string ⟨#[]⟩, .int .u64 0, .string ⟨#[]⟩, .string ⟨#[]⟩, .int .u64 0, .int .i64 0, .pointer none, .slice none 0 0, sv, .slice none 0 0, .slice none 0 0]

/-- What is owned, as it is read. -/
def Owned (w : World) (B : Nat) (ad : Option Addr) (n : Nat) (xs : List Value) : Prop := xs.length = n * 19 ∧ (0 < n → ∃ g, ad = some ⟨g, 0, none⟩ ∧ B ≤ g ∧ g < w.heap.size ∧ ∀ j, j < n * 19 → w.cell? ⟨g, j, none⟩ = xs[j]?)
theorem owned_of {w : World} {B n : Nat} {sv : Value} {xs : List Value} (h : w.ownsRow B 83 19 sv n xs) : ∃ ad cap, sv = .slice ad n cap ∧ Owned w B ad n xs := by
  rcases h.2 with ⟨rfl, rfl⟩ | ⟨g, cap, cur, rfl, hb, hg, _⟩
  · exact ⟨none, 0, rfl, h.1, fun h => absurd h (Nat.lt_irrefl _)⟩
  · exact ⟨_, cap, rfl, h.1, fun _ => ⟨g, rfl, hb, lt_of_block hg, fun j hj => h.cellAt j hj⟩⟩
theorem Owned.kept {w w' : World} {B n : Nat} {ad : Option Addr} {xs : List Value} (h : Owned w B ad n xs) (k : Kept (fun _ => True) w w') : Owned w' B ad n xs :=
  ⟨h.1, fun hn => by
    obtain ⟨g, h1, h2, h3, h4⟩ := h.2 hn
    exact ⟨g, h1, h2, Nat.lt_of_lt_of_le h3 k.size, fun j hj => by rw [← h4 j hj]; exact World.cell?_of_block (w := w) (k.block g h3 trivial)⟩⟩

/-- What holds behind the call of probe. -/
def TailB (w wx : World) (B sb nb : Nat) (nm : ByteArray) (inc : Int) (sa st : ByteArray) (num : Int) (gr : ByteArray) (ms : List Mem) (np : Nat) (ad : Option Addr) (cap : Nat) : Prop :=
  Below B w wx ∧ (∃ A, Blk wx B 35 A ∧ A.toList = memCells ms) ∧ Blk wx sb 35 #[.string nm, .int .u64 inc, .string sa, .string ⟨#[]⟩] ∧
    Blk wx nb 72 (nodeArr nm inc sa st num B ms.length gr (.slice ad (np + (others nm inc ms).length) cap)) ∧
    Owned wx B ad (np + (others nm inc ms).length) (preCells np ++ (others nm inc ms).flatMap (envOf nm inc sa st gr num))

theorem preCells_at : ∀ (n k j : Nat), k < n → j < 19 → (preCells n)[k * 19 + j]? = (preEnv k)[j]?
  | 0, k, j, h, _ => by omega
  | n + 1, k, j, h, hj => by
    rw [preCells_succ]
    by_cases e : k < n
    · rw [List.getElem?_append_left (by rw [preCells_length]; omega), preCells_at n k j e hj]
    · have : k = n := by omega
      subst this
      rw [List.getElem?_append_right (by rw [preCells_length]; omega), preCells_length]
      congr 1; omega
/-- What the law reads of a queued envelope. -/
theorem pre_at {w : World} {g np k : Nat} {X : List Value} (hc : ∀ j, j < np * 19 → w.cell? ⟨g, j, none⟩ = (preCells np ++ X)[j]?) (hk : k < np) :
    w.cell? ⟨g, k * 19, none⟩ = some (.string (Utf8.encode (97 + k))) ∧ w.cell? ⟨g, k * 19 + 1, none⟩ = some (.string ⟨#[120]⟩) ∧ w.cell? ⟨g, k * 19 + 7, none⟩ = some (.int .u64 k) := by
  have h : ∀ j, j < 19 → w.cell? ⟨g, k * 19 + j, none⟩ = (preEnv k)[j]? := fun j hj => by
    rw [hc _ (by omega), List.getElem?_append_left (by rw [preCells_length]; omega), preCells_at np k j hk hj]
  exact ⟨h 0 (by decide), h 1 (by decide), h 7 (by decide)⟩

/-- The group that the law awaits. -/
def wgOf (st gr : ByteArray) : ByteArray := if (st.toList == [106, 111, 105, 110, 105, 110, 103]) = true then ⟨#[]⟩ else gr
theorem grp_wg (st gr : ByteArray) : grp st gr (.string ⟨#[]⟩) = .string (wgOf st gr) := by unfold grp wgOf; split <;> rfl

theorem envs_at (f : Mem → List Value) (hf : ∀ m, (f m).length = 19) : ∀ (l : List Mem) (i j : Nat) (m : Mem), l[i]? = some m → j < 19 → (l.flatMap f)[i * 19 + j]? = (f m)[j]?
  | [], i, j, m, h, _ => by simp at h
  | x :: l, 0, j, m, h, hj => by
    simp at h
    subst h
    rw [List.flatMap_cons, List.getElem?_append_left (by rw [hf]; omega)]
    congr 1; omega
  | x :: l, i + 1, j, m, h, hj => by
    have ih := envs_at f hf l i j m (by simpa using h) hj
    rw [List.flatMap_cons, List.getElem?_append_right (by rw [hf]; omega), hf, ← ih]
    congr 1; omega

theorem others_at (nm : ByteArray) (inc : Int) (ms : List Mem) (k : Nat) (hk : k < ms.length) (ho : other nm inc (ms.getD k mem0) = true) : (others nm inc ms)[(others nm inc (ms.take k)).length]? = some (ms.getD k mem0) := by
  have e : ms = ms.take k ++ (ms.getD k mem0 :: ms.drop (k + 1)) := by
    have h1 := List.take_append_drop k ms
    have h2 : ms.drop k = ms.getD k mem0 :: ms.drop (k + 1) := by rw [List.drop_eq_getElem_cons hk]; simp [List.getD, hk]
    rw [h2] at h1
    exact h1.symm
  generalize hm : ms.getD k mem0 = m at *
  generalize ms.take k = a at *
  generalize ms.drop (k + 1) = b at *
  subst e
  unfold others
  rw [List.filter_append, List.getElem?_append_right (Nat.le_refl _), Nat.sub_self, List.filter_cons, if_pos ho]
  rfl

theorem envOf_length (nm : ByteArray) (inc : Int) (ad st gr : ByteArray) (num : Int) (m : Mem) : (envOf nm inc ad st gr num m).length = 19 := rfl
theorem envOf_one (nm : ByteArray) (inc : Int) (ad st gr : ByteArray) (num : Int) (m : Mem) : (envOf nm inc ad st gr num m).toArray.all (·.oneCell') = true := all_oneCell_toArray (by simp [envOf, grp_wg, Value.oneCell'])

/-- The envelope to the k-th member lies where the law looks. -/
theorem env_range {w : World} {g np k : Nat} {nm : ByteArray} {inc : Int} {sa st gr : ByteArray} {num : Int} {ms : List Mem} (hk : k < ms.length) (ho : other nm inc (ms.getD k mem0) = true)
    (hc : ∀ j, j < (np + (others nm inc ms).length) * 19 → w.cell? ⟨g, j, none⟩ = (preCells np ++ (others nm inc ms).flatMap (envOf nm inc sa st gr num))[j]?) :
    (others nm inc (ms.take k)).length < (others nm inc ms).length ∧ w.rangeAt g ((np + (others nm inc (ms.take k)).length) * 19) (envOf nm inc sa st gr num (ms.getD k mem0)) := by
  have hat := others_at nm inc ms k hk ho
  have hlt : (others nm inc (ms.take k)).length < (others nm inc ms).length := by
    obtain ⟨h, _⟩ := List.getElem?_eq_some_iff.1 hat
    exact h
  refine ⟨hlt, fun j v hv => ?_⟩
  have hj : j < 19 := by
    obtain ⟨h, _⟩ := List.getElem?_eq_some_iff.1 hv
    rw [envOf_length] at h
    exact h
  rw [hc _ (by omega), List.getElem?_append_right (by rw [preCells_length]; omega), preCells_length, ← hv, ← envs_at (envOf nm inc sa st gr num) (envOf_length nm inc sa st gr num) (others nm inc ms) _ j _ hat hj]
  congr 1; omega

theorem kept_setCells {p : Nat → Prop} {a : World} {b : Nat} (hb : a.heap.size ≤ b) : ∀ (cs : List Value) (o : Nat) {w : World}, Kept p a w → Kept p a (w.setCells b o cs)
  | [], _, _, h => h
  | v :: cs, o, _, h => kept_setCells hb cs (o + 1) (h.setNew hb v)
theorem env_there (wr : World) (C : Array Value) : ((wr.alloc (.cells C 33)).alloc (.cells zero83.cells 83)).there (wr.heap.size + 1) 0 19 := by
  have h := Blk.new (wr.alloc (.cells C 33)) 83 zero83.cells
  rw [show (wr.alloc (.cells C 33)).heap.size = wr.heap.size + 1 from by simp] at h
  exact h.there 0 19 (by decide +kernel)
theorem env_stored (wr : World) (C : Array Value) (E : List Value) (hE : E.length = 19) :
    Kept (fun _ => True) wr ((((wr.alloc (.cells C 33)).alloc (.cells zero83.cells 83)).drew).setCells (wr.heap.size + 1) 0 E) ∧ Blk ((((wr.alloc (.cells C 33)).alloc (.cells zero83.cells 83)).drew).setCells (wr.heap.size + 1) 0 E) (wr.heap.size + 1) 83 E.toArray := by
  have h := Blk.new (wr.alloc (.cells C 33)) 83 zero83.cells
  rw [show (wr.alloc (.cells C 33)).heap.size = wr.heap.size + 1 from by simp] at h
  have hz : zero83.cells.size = 19 := by decide +kernel
  constructor
  · have hk : Kept (fun _ => True) wr ((wr.alloc (.cells C 33)).alloc (.cells zero83.cells 83)).drew := (((Kept.refl _ wr).alloc _).alloc _).drew
    exact kept_setCells (by omega) E 0 hk
  · obtain ⟨N', h1, h2⟩ := Blk.setCells E 0 h.drew (by omega)
    have : N' = E.toArray := by
      apply Array.toList_inj.1
      rw [h2]
      simp [hE, hz]
    rw [← this]
    exact h1

/-- The probe's message as its eighteen cells. -/
theorem msg_range {w : World} {b : Nat} {nm : ByteArray} {inc : Int} {sa st gr : ByteArray} {num : Int} {m : Mem} (h : Blk w b 83 (envOf nm inc sa st gr num m).toArray) :
    w.rangeAt b 1 [.string ⟨#[112, 114, 111, 98, 101]⟩, .string nm, .int .u64 inc, .string sa, .slice none 0 0, .pointer none, .int .u64 num, .pointer none, .pointer none, .pointer none, .pointer none, .pointer none, .pointer none, .pointer none, .slice none 0 0, .map none, .string (wgOf st gr), .pointer none] := fun j v hv => by
  rw [h.cell, ← hv, ← grp_wg]
  simp only [List.getElem?_toArray]
  rw [show 1 + j = j + 1 from by omega]
  rfl

theorem tail_of {w wc w1 : World} {B sb nb np : Nat} {nm : ByteArray} {inc : Int} {sa st : ByteArray} {num : Int} {gr : ByteArray} {ms : List Mem} {A1 : Array Value} {sv sv' : Value}
    (hnb : wc.heap.size = nb) (hb1 : Below B w wc) (hA1 : Blk wc B 35 A1) (hA2 : A1.toList = memCells ms) (hs1 : Blk wc sb 35 #[.string nm, .int .u64 inc, .string sa, .string ⟨#[]⟩])
    (hN1 : Blk w1 nb 72 ((nodeArr nm inc sa st num B ms.length gr sv).setIfInBounds 61 sv'))
    (hO1 : w1.ownsRow B 83 19 sv' (np + (others nm inc ms).length) (preCells np ++ (others nm inc ms).flatMap (envOf nm inc sa st gr num)))
    (hK1 : Kept (fun k => k < B ∨ (k ≠ nb ∧ ∀ c, (wc.alloc (.cells (nodeArr nm inc sa st num B ms.length gr sv) 72)).heap[k]? ≠ some (.cells c 83 (0, 0)))) (wc.alloc (.cells (nodeArr nm inc sa st num B ms.length gr sv) 72)) w1) :
    ∃ ad cap, TailB w w1 B sb nb nm inc sa st num gr ms np ad cap := by
  obtain ⟨ad, cap, rfl, hO⟩ := owned_of hO1
  have hA1' := hA1.alloc (.cells (nodeArr nm inc sa st num B ms.length gr sv) 72)
  have hs1' := hs1.alloc (.cells (nodeArr nm inc sa st num B ms.length gr sv) 72)
  have hAlt := hA1.lt
  have hslt := hs1.lt
  refine ⟨ad, cap, (hb1.alloc (Nat.le_of_lt hAlt) _).trans (hK1.below (by simp; omega) (fun k hk => Or.inl hk)), ⟨A1, hA1'.kept hK1 (Or.inr ⟨by omega, fun c e => ?_⟩), hA2⟩, hs1'.kept hK1 (Or.inr ⟨by omega, fun c e => ?_⟩), hN1, hO⟩
  · rw [show (wc.alloc _).heap[B]? = _ from hA1'] at e; simp at e
  · rw [show (wc.alloc _).heap[sb]? = _ from hs1'] at e; simp at e
end Go.Proofs.Ybulkcdnw
