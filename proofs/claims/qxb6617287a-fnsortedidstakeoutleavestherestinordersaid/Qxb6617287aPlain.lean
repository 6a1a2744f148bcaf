/- The plain mathematics of seat b6617287a: runs as lists. -/
namespace Go.Proofs.Qxb6617287a

/-- How many strings the first k runs hold. -/
def sumL (L : Nat → Nat) : Nat → Nat
  | 0 => 0
  | k + 1 => sumL L k + L k
/-- Run r as a list. -/
def rowL (S : Nat → Nat → ByteArray) (L : Nat → Nat) (r : Nat) : List ByteArray := (List.range (L r)).map (S r)
/-- The first k runs, one behind the other. -/
def flatL (S : Nat → Nat → ByteArray) (L : Nat → Nat) : Nat → List ByteArray
  | 0 => []
  | k + 1 => flatL S L k ++ rowL S L k

theorem length_rowL (S : Nat → Nat → ByteArray) (L : Nat → Nat) (r : Nat) : (rowL S L r).length = L r := by simp [rowL]
theorem length_flatL (S : Nat → Nat → ByteArray) (L : Nat → Nat) (k : Nat) : (flatL S L k).length = sumL L k := by
  induction k with
  | zero => rfl
  | succ k ih => simp [flatL, sumL, ih, length_rowL]
theorem sumL_mono (L : Nat → Nat) {a b : Nat} (h : a ≤ b) : sumL L a ≤ sumL L b := by
  induction b with
  | zero => have : a = 0 := by omega
            subst this; exact Nat.le_refl _
  | succ b ih =>
    by_cases e : a = b + 1
    · subst e; exact Nat.le_refl _
    · have := ih (by omega)
      simp only [sumL]; omega
theorem rowL_take (S : Nat → Nat → ByteArray) (L : Nat → Nat) (r j : Nat) (h : j < L r) : (rowL S L r).take (j + 1) = (rowL S L r).take j ++ [S r j] := by
  rw [List.take_succ_eq_append_getElem (by rw [length_rowL]; exact h)]
  simp [rowL]
theorem flatL_eq (S : Nat → Nat → ByteArray) (L : Nat → Nat) (n : Nat) : flatL S L n = ((List.range n).map (rowL S L)).flatten := by
  induction n with
  | zero => rfl
  | succ n ih => simp [flatL, ih, List.range_succ]
end Go.Proofs.Qxb6617287a
