/-
  The plain law: a string's runes are all of the MRZ's alphabet just where its bytes are. No walk.
-/
import Derived.Laws.IdiomStrings
namespace Go.Proofs.YbulkcdqoFmt

/-- One of 0-9, A-Z and the filler, as a number. -/
def okN (n : Int) : Bool := (decide (48 ≤ n) && decide (n ≤ 57)) || (decide (65 ≤ n) && decide (n ≤ 90)) || decide (n = 60)

theorem okN_big {n : Int} (h : 128 ≤ n) : okN n = false := by
  unfold okN
  simp
  omega

/-- The runes from byte i on. -/
def runesL (s : ByteArray) : Nat → Nat → List Nat
  | 0, _ => []
  | bound + 1, i => if i < s.size then (Utf8.decode s i).1 :: runesL s bound (i + (Utf8.decode s i).2) else []

theorem runesFrom_eq (s : ByteArray) : ∀ (bound i : Nat) (acc : Array Value), Conv.runesFrom s bound i acc = acc ++ ((runesL s bound i).map (fun (r : Nat) => Value.int .i32 (r : Int))).toArray
  | 0, _, acc => by simp [Conv.runesFrom, runesL]
  | bound + 1, i, acc => by
    unfold Conv.runesFrom runesL
    split
    · show Conv.runesFrom s bound (i + (Utf8.decode s i).2) (acc.push (.int .i32 (Int.ofNat (Utf8.decode s i).1))) = _
      rw [runesFrom_eq s bound]
      apply Array.toList_inj.1
      simp
    · simp

theorem decode_low (s : ByteArray) (i : Nat) (h : (s.get! i).toNat < 128) : Utf8.decode s i = ((s.get! i).toNat, 1) := by
  unfold Utf8.decode
  simp only [Nat.add_zero]
  rw [if_pos h]

theorem decode_high (s : ByteArray) (i : Nat) (h : ¬ (s.get! i).toNat < 128) : 128 ≤ (Utf8.decode s i).1 := by
  unfold Utf8.decode
  simp only [Nat.add_zero]
  rw [if_neg h]
  split
  · split
    · assumption
    · decide
  · split
    · split
      · rename_i h1
        simp only [Bool.and_eq_true, decide_eq_true_eq] at h1
        exact Nat.le_trans (by decide) h1.1
      · decide
    · split
      · split
        · rename_i h1
          simp only [Bool.and_eq_true, decide_eq_true_eq] at h1
          exact Nat.le_trans (by decide) h1.1
        · decide
      · decide

/-- Are all bytes from i on allowed? -/
def allB (s : ByteArray) (i : Nat) : Prop := ∀ j, i ≤ j → j < s.size → okN (s.get! j).toNat = true

theorem all_iff (s : ByteArray) : ∀ (bound i : Nat), s.size - i ≤ bound → ((∀ r ∈ runesL s bound i, okN (r : Int) = true) ↔ allB s i)
  | 0, i, h => by
    simp only [runesL, List.not_mem_nil, false_implies, implies_true, true_iff]
    intro j h1 h2
    omega
  | bound + 1, i, h => by
    unfold runesL
    by_cases hi : i < s.size
    · rw [if_pos hi]
      by_cases hb : (s.get! i).toNat < 128
      · rw [decode_low s i hb]
        have ih := all_iff s bound (i + 1) (by omega)
        simp only [List.mem_cons, forall_eq_or_imp]
        rw [ih]
        constructor
        · intro ⟨h1, h2⟩ j hj1 hj2
          by_cases e : j = i
          · subst e; exact h1
          · exact h2 j (by omega) hj2
        · intro hall
          exact ⟨hall i (Nat.le_refl _) hi, fun j hj1 hj2 => hall j (by omega) hj2⟩
      · constructor
        · intro hall
          have := hall _ (List.mem_cons_self ..)
          rw [okN_big (by have := decode_high s i hb; omega)] at this
          cases this
        · intro hall
          have := hall i (Nat.le_refl _) hi
          rw [okN_big (by omega)] at this
          cases this
    · rw [if_neg hi]
      simp only [List.not_mem_nil, false_implies, implies_true, true_iff]
      intro j h1 h2
      omega

theorem runesL_length (s : ByteArray) : ∀ (bound i : Nat), (runesL s bound i).length ≤ bound
  | 0, _ => by simp [runesL]
  | bound + 1, i => by
    unfold runesL
    split
    · simp only [List.length_cons]; have := runesL_length s bound (i + (Utf8.decode s i).2); omega
    · simp
end Go.Proofs.YbulkcdqoFmt
