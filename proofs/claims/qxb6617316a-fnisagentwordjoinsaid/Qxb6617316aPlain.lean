/- The plain mathematics of seat b6617316a: agent words. -/
namespace Go.Proofs.Qxb6617316a

/-- A byte of an agent word. -/
def agc (c : Nat) : Bool := decide ((97 ≤ c ∧ c ≤ 122) ∨ (48 ≤ c ∧ c ≤ 57) ∨ c = 95)
/-- An agent word. -/
def aw (l : List UInt8) : Bool := decide (1 ≤ l.length) && (decide (l.length ≤ 64) && l.all fun b => agc b.toNat)
/-- How many of the bytes below k are bytes of agent words. -/
def cnt : Nat → Nat
  | 0 => 0
  | k + 1 => cnt k + if agc k = true then 1 else 0

theorem cnt_256 : cnt 256 = 37 := by decide +kernel
theorem cnt_le (k : Nat) : cnt k ≤ k := by
  induction k with
  | zero => simp [cnt]
  | succ k ih => simp only [cnt]; split <;> omega
theorem agc_pos {c : Nat} (h : (97 ≤ c ∧ c ≤ 122) ∨ (48 ≤ c ∧ c ≤ 57) ∨ c = 95) : agc c = true := decide_eq_true h
theorem agc_neg {c : Nat} (h : ¬ ((97 ≤ c ∧ c ≤ 122) ∨ (48 ≤ c ∧ c ≤ 57) ∨ c = 95)) : agc c = false := decide_eq_false h

theorem aw_short (l : List UInt8) (h : l.length = 0) : aw l = false := by simp [aw, h]
theorem aw_long (l : List UInt8) (h : 64 < l.length) : aw l = false := by
  have : decide (l.length ≤ 64) = false := decide_eq_false (by omega)
  simp [aw, this]
theorem aw_bad (l : List UInt8) (k : Nat) (hk : k < l.length) (h : agc l[k].toNat = false) : aw l = false := by
  have : (l.all fun b => agc b.toNat) = false := by
    rw [List.all_eq_false]
    exact ⟨l[k], List.getElem_mem hk, by simp [h]⟩
  simp [aw, this]
theorem aw_good (l : List UInt8) (h1 : 1 ≤ l.length) (h2 : l.length ≤ 64) (h : ∀ k (hk : k < l.length), agc l[k].toNat = true) : aw l = true := by
  have : (l.all fun b => agc b.toNat) = true := by
    rw [List.all_eq_true]
    intro b hb
    obtain ⟨k, hk, rfl⟩ := List.mem_iff_getElem.1 hb
    exact h k hk
  have d1 : decide (1 ≤ l.length) = true := decide_eq_true h1
  have d2 : decide (l.length ≤ 64) = true := decide_eq_true h2
  simp [aw, this, d1, d2]
theorem aw_one (b : UInt8) : aw [b] = agc b.toNat := by simp [aw]
/-- A word's parts, within the bound. -/
theorem aw_append (a b : List UInt8) (h1 : 1 ≤ a.length + b.length) (h2 : a.length + b.length ≤ 64) : aw (a ++ b) = ((a.isEmpty || aw a) && (b.isEmpty || aw b)) := by
  have key : aw (a ++ b) = (a.all (fun b => agc b.toNat) && b.all (fun b => agc b.toNat)) := by
    have d1 : decide (1 ≤ (a ++ b).length) = true := decide_eq_true (by simp; omega)
    have d2 : decide ((a ++ b).length ≤ 64) = true := decide_eq_true (by simp; omega)
    unfold aw
    rw [d1, d2]
    simp [List.all_append]
  have part : ∀ l : List UInt8, l.length ≤ 64 → (l.isEmpty || aw l) = l.all fun b => agc b.toNat := fun l hl => by
    cases l with
    | nil => rfl
    | cons x xs =>
      have d1 : decide (1 ≤ (x :: xs).length) = true := decide_eq_true (by simp)
      have d2 : decide ((x :: xs).length ≤ 64) = true := decide_eq_true hl
      unfold aw
      rw [d1, d2]
      simp
  rw [key, part a (by omega), part b (by omega)]
end Go.Proofs.Qxb6617316a
