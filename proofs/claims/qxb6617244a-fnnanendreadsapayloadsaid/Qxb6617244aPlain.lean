/- The plain mathematics of seat b6617244a: byte classes; nothing of the dump. -/
import Derived.Laws.BitsAllLaws
namespace Go.Proofs.Qxb6617244a

/-- A digit of base. -/
def digB (c base : Int) : Bool := decide ((48 ≤ c ∧ c ≤ 57) ∨ (base = 16 ∧ ((97 ≤ c ∧ c ≤ 102) ∨ (65 ≤ c ∧ c ≤ 70))))
/-- A letter, a decimal digit, an underscore. -/
def wordB (c : Int) : Bool := decide ((48 ≤ c ∧ c ≤ 57) ∨ (97 ≤ c ∧ c ≤ 122) ∨ (65 ≤ c ∧ c ≤ 90) ∨ c = 95)
/-- A decimal digit. -/
def decB (c : Int) : Bool := decide (48 ≤ c ∧ c ≤ 57)

theorem or32_nat : ∀ a : Fin 256, (a.val ||| 32 : Nat) = if (a.val / 32) % 2 = 1 then a.val else a.val + 32 := by decide +kernel

theorem or32 (c : Int) (h0 : 0 ≤ c) (h1 : c ≤ 255) : ∃ d, bits .or .u8 c 32 = d ∧ ((d = c ∧ (32 ≤ c ∧ c ≤ 63 ∨ 96 ≤ c ∧ c ≤ 127 ∨ 160 ≤ c ∧ c ≤ 191 ∨ 224 ≤ c)) ∨ (d = c + 32 ∧ (c ≤ 31 ∨ 64 ≤ c ∧ c ≤ 95 ∨ 128 ≤ c ∧ c ≤ 159 ∨ 192 ≤ c ∧ c ≤ 223))) := by
  refine ⟨_, rfl, ?_⟩
  rw [u8_or c 32 h0 (by omega) (by omega) (by omega)]
  have h := or32_nat ⟨c.toNat, by omega⟩
  simp only at h
  have e : (32 : Int).toNat = 32 := rfl
  rw [e, h]
  split <;> omega

theorem digB_pos {c base : Int} (h : (48 ≤ c ∧ c ≤ 57) ∨ (base = 16 ∧ ((97 ≤ c ∧ c ≤ 102) ∨ (65 ≤ c ∧ c ≤ 70)))) : digB c base = true := by simpa [digB] using h
theorem digB_neg {c base : Int} (h : ¬ ((48 ≤ c ∧ c ≤ 57) ∨ (base = 16 ∧ ((97 ≤ c ∧ c ≤ 102) ∨ (65 ≤ c ∧ c ≤ 70))))) : digB c base = false := decide_eq_false h
theorem wordB_pos {c : Int} (h : (48 ≤ c ∧ c ≤ 57) ∨ (97 ≤ c ∧ c ≤ 122) ∨ (65 ≤ c ∧ c ≤ 90) ∨ c = 95) : wordB c = true := decide_eq_true h
theorem wordB_neg {c : Int} (h : ¬ ((48 ≤ c ∧ c ≤ 57) ∨ (97 ≤ c ∧ c ≤ 122) ∨ (65 ≤ c ∧ c ≤ 90) ∨ c = 95)) : wordB c = false := decide_eq_false h
theorem decB_pos {c : Int} (h : 48 ≤ c ∧ c ≤ 57) : decB c = true := decide_eq_true h
theorem decB_neg {c : Int} (h : ¬ (48 ≤ c ∧ c ≤ 57)) : decB c = false := decide_eq_false h
theorem digB_iff {c base : Int} : digB c base = true ↔ ((48 ≤ c ∧ c ≤ 57) ∨ (base = 16 ∧ ((97 ≤ c ∧ c ≤ 102) ∨ (65 ≤ c ∧ c ≤ 70)))) := by simp [digB]
theorem wordB_iff {c : Int} : wordB c = true ↔ ((48 ≤ c ∧ c ≤ 57) ∨ (97 ≤ c ∧ c ≤ 122) ∨ (65 ≤ c ∧ c ≤ 90) ∨ c = 95) := by simp [wordB]
theorem decB_iff {c : Int} : decB c = true ↔ (48 ≤ c ∧ c ≤ 57) := by simp [decB]
theorem digB_ten (c : Int) : digB c 10 = decB c := by simp [digB, decB]

end Go.Proofs.Qxb6617244a
