/- The plain mathematics of mantissa: counts over a window of bytes. -/
import Derived.Test.Qxb6617244aPlain
namespace Go.Proofs.Qxb6617244a

def pts (g : Nat → Int) (i : Nat) : Nat → Nat
  | 0 => 0
  | n + 1 => pts g i n + if g (i + n) = 46 then 1 else 0
def dgs (g : Nat → Int) (i : Nat) : Nat → Nat
  | 0 => 0
  | n + 1 => dgs g i n + if g (i + n) = 46 then 0 else 1
def nzs (g : Nat → Int) (i : Nat) : Nat → Bool
  | 0 => false
  | n + 1 => nzs g i n || (decide (g (i + n) ≠ 46) && decide (g (i + n) ≠ 48))
/-- Every byte of the window is a point or a digit of base. -/
def AllD (g : Nat → Int) (base : Int) (i n : Nat) : Prop := ∀ k, k < n → g (i + k) = 46 ∨ digB (g (i + k)) base = true
/-- What mantissa has read behind n bytes. -/
def MS (g : Nat → Int) (base : Int) (i n D : Nat) (Z q : Bool) : Prop :=
  D = dgs g i n ∧ Z = nzs g i n ∧ (q = true ↔ pts g i n = 1) ∧ pts g i n ≤ 1 ∧ AllD g base i n
/-- Where it stops. -/
def Stop (g : Nat → Int) (base : Int) (len i n : Nat) : Prop := i + n = len ∨ (i + n < len ∧ digB (g (i + n)) base = false ∧ (g (i + n) = 46 → pts g i n = 1))

theorem pts_le (g : Nat → Int) (i n : Nat) : pts g i n ≤ n := by
  induction n with
  | zero => simp [pts]
  | succ n ih => simp only [pts]; split <;> omega
theorem dgs_le (g : Nat → Int) (i n : Nat) : dgs g i n ≤ n := by
  induction n with
  | zero => simp [dgs]
  | succ n ih => simp only [dgs]; split <;> omega
theorem pts_mono (g : Nat → Int) (i n m : Nat) (h : n ≤ m) : pts g i n ≤ pts g i m := by
  induction m with
  | zero => have : n = 0 := by omega
            subst this; exact Nat.le_refl _
  | succ m ih =>
    by_cases e : n = m + 1
    · subst e; exact Nat.le_refl _
    · have := ih (by omega)
      simp only [pts]; omega

theorem dig46 (base : Int) : digB 46 base = false := digB_neg (by omega)

theorem MS.zero (g : Nat → Int) (base : Int) (i : Nat) : MS g base i 0 0 false false := ⟨rfl, rfl, by simp [pts], by simp [pts], fun k hk => by omega⟩
theorem MS.Dle {g : Nat → Int} {base : Int} {i n D : Nat} {Z q : Bool} (h : MS g base i n D Z q) : D ≤ n := by rw [h.1]; exact dgs_le g i n
theorem AllD.snoc {g : Nat → Int} {base : Int} {i n : Nat} (h : AllD g base i n) (hd : g (i + n) = 46 ∨ digB (g (i + n)) base = true) : AllD g base i (n + 1) := by
  intro k hk
  by_cases e : k = n
  · subst e; exact hd
  · exact h k (by omega)
theorem MS.point {g : Nat → Int} {base : Int} {i n D : Nat} {Z : Bool} (h : MS g base i n D Z false) (hp : g (i + n) = 46) : MS g base i (n + 1) D Z true := by
  obtain ⟨h1, h2, h3, h4, h5⟩ := h
  have h0 : pts g i n = 0 := by
    have : ¬ pts g i n = 1 := fun e => by have := h3.2 e; cases this
    omega
  refine ⟨by simp [dgs, hp, h1], by simp [nzs, hp, h2], by simp [pts, hp, h0], by simp [pts, hp, h0], h5.snoc (Or.inl hp)⟩
theorem MS.digit {g : Nat → Int} {base : Int} {i n D : Nat} {Z q : Bool} (h : MS g base i n D Z q) (hd : digB (g (i + n)) base = true) : MS g base i (n + 1) (D + 1) (Z || (g (i + n) != 48)) q := by
  obtain ⟨h1, h2, h3, h4, h5⟩ := h
  have hp : g (i + n) ≠ 46 := fun e => by rw [e, dig46] at hd; cases hd
  refine ⟨by simp [dgs, hp, h1], ?_, by simpa [pts, hp] using h3, by simpa [pts, hp] using h4, h5.snoc (Or.inr hd)⟩
  simp only [nzs, h2]
  have e1 : decide (g (i + n) ≠ 46) = true := by simpa using hp
  rw [e1, Bool.true_and]
  congr 1
  rw [Bool.eq_iff_iff]; simp

theorem MS.stop_point {g : Nat → Int} {base : Int} {len i n D : Nat} {Z : Bool} (h : MS g base i n D Z true) (hp : g (i + n) = 46) (hl : i + n < len) : Stop g base len i n :=
  Or.inr ⟨hl, by rw [hp]; exact dig46 base, fun _ => h.2.2.1.1 rfl⟩

/-- The numeral test. -/
def Num (g : Nat → Int) (base : Int) (i n : Nat) : Prop := AllD g base i n ∧ pts g i n ≤ 1

theorem Stop.notNum {g : Nat → Int} {base : Int} {len i n : Nat} (h : Stop g base len i n) (hl : i + n < len) : ¬ Num g base i (n + 1) := by
  rintro ⟨h1, h2⟩
  rcases h with h | ⟨_, hd, hp⟩
  · omega
  · rcases h1 n (by omega) with e | e
    · have := hp e
      simp [pts, e, this] at h2
    · rw [hd] at e; cases e

/-- The reading is determined by the bytes from its start. -/
theorem window_eq {g1 g2 : Nat → Int} {i1 i2 n : Nat} (h : ∀ k, k < n → g1 (i1 + k) = g2 (i2 + k)) : pts g1 i1 n = pts g2 i2 n ∧ dgs g1 i1 n = dgs g2 i2 n ∧ nzs g1 i1 n = nzs g2 i2 n := by
  induction n with
  | zero => exact ⟨rfl, rfl, rfl⟩
  | succ n ih =>
    obtain ⟨a, b, c⟩ := ih (fun k hk => h k (by omega))
    have e := h n (by omega)
    simp only [pts, dgs, nzs, a, b, c, e]
    exact ⟨trivial, trivial, trivial⟩

theorem stop_le {g1 g2 : Nat → Int} {base : Int} {l1 l2 i1 i2 n1 n2 : Nat} (hl : l1 - i1 = l2 - i2) (hi2 : i2 ≤ l2) (h : ∀ k, k < l1 - i1 → g1 (i1 + k) = g2 (i2 + k))
    (s1 : Stop g1 base l1 i1 n1) (_b1 : i1 + n1 ≤ l1) (m2 : AllD g2 base i2 n2 ∧ pts g2 i2 n2 ≤ 1) (b2 : i2 + n2 ≤ l2) : n2 ≤ n1 := by
  apply Classical.byContradiction
  intro hlt
  have hlt : n1 < n2 := by omega
  rcases s1 with s | ⟨s, hd, hp⟩
  · omega
  · have e := h n1 (by omega)
    rcases m2.1 n1 hlt with h46 | hdg
    · rw [← e] at h46
      have p1 := hp h46
      have w := (window_eq (g1 := g1) (g2 := g2) (i1 := i1) (i2 := i2) (n := n1) (fun k hk => h k (by omega))).1
      have p2 : pts g2 i2 (n1 + 1) = 2 := by simp [pts, ← w, p1, ← e, h46]
      have := pts_mono g2 i2 (n1 + 1) n2 (by omega)
      have := m2.2
      omega
    · rw [← e, hd] at hdg; cases hdg

end Go.Proofs.Qxb6617244a
