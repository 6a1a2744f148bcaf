/- The plain mathematics of exponent. -/
import Derived.Test.Qxb6617244aPlain
namespace Go.Proofs.Qxb6617244a

def IsMark (c m : Int) : Prop := c = m ∨ c = m - 32
def Sgn (c : Int) : Prop := c = 43 ∨ c = 45
/-- Where the digits of an exponent that begins at i would begin. -/
def StartS (g : Nat → Int) (len i s : Nat) : Prop := (s = i + 1 ∧ (len ≤ i + 1 ∨ ¬ Sgn (g (i + 1)))) ∨ (s = i + 2 ∧ i + 1 < len ∧ Sgn (g (i + 1)))
/-- What exponent answers at i. -/
def ExpR (g : Nat → Int) (m : Int) (len i r : Nat) : Prop :=
  (r = i ∧ (¬ IsMark (g i) m ∨ ∃ s, StartS g len i s ∧ (len ≤ s ∨ decB (g s) = false))) ∨
  (IsMark (g i) m ∧ ∃ s, StartS g len i s ∧ s < r ∧ r ≤ len ∧ (∀ k, s ≤ k → k < r → decB (g k) = true) ∧ (r = len ∨ decB (g r) = false))
/-- What zzIsExponent asks of n bytes from i on. -/
def ExpP (g : Nat → Int) (m : Int) (i n : Nat) : Prop :=
  2 ≤ n ∧ IsMark (g i) m ∧ ∃ k0, ((k0 = 1 ∧ ¬ Sgn (g (i + 1))) ∨ (k0 = 2 ∧ Sgn (g (i + 1)))) ∧ k0 < n ∧ ∀ k, k0 ≤ k → k < n → decB (g (i + k)) = true

theorem mark_iff {c m d : Int} (h97 : 97 ≤ m) (h122 : m ≤ 122) (hc : (d = c ∧ (32 ≤ c ∧ c ≤ 63 ∨ 96 ≤ c ∧ c ≤ 127 ∨ 160 ≤ c ∧ c ≤ 191 ∨ 224 ≤ c)) ∨ (d = c + 32 ∧ (c ≤ 31 ∨ 64 ≤ c ∧ c ≤ 95 ∨ 128 ≤ c ∧ c ≤ 159 ∨ 192 ≤ c ∧ c ≤ 223))) :
    d = m ↔ IsMark c m := by
  unfold IsMark
  omega

theorem exp_none {g : Nat → Int} {m : Int} {len i n : Nat} (h : ¬ IsMark (g i) m ∨ ∃ s, StartS g len i s ∧ (len ≤ s ∨ decB (g s) = false)) (hn : i + n ≤ len) : ¬ ExpP g m i n := by
  rintro ⟨h2, hm, k0, hk, hkn, hall⟩
  rcases h with h | ⟨s, hs', he⟩
  · exact h hm
  · rcases hk with ⟨rfl, hsg⟩ | ⟨rfl, hsg⟩
    · rcases hs' with ⟨rfl, _⟩ | ⟨rfl, _, hsg'⟩
      · rcases he with he | he
        · omega
        · rw [hall 1 (by omega) (by omega)] at he; cases he
      · exact hsg hsg'
    · rcases hs' with ⟨rfl, hq⟩ | ⟨rfl, _, _⟩
      · rcases hq with hq | hq
        · omega
        · exact hq hsg
      · rcases he with he | he
        · omega
        · rw [hall 2 (by omega) (by omega)] at he; cases he

theorem exp_some {g : Nat → Int} {m : Int} {len i r : Nat} (hm : IsMark (g i) m) {s : Nat} (hs : StartS g len i s) (hsr : s < r) (hrl : r ≤ len) (hall : ∀ k, s ≤ k → k < r → decB (g k) = true) : i + 2 ≤ r ∧ ExpP g m i (r - i) := by
  rcases hs with ⟨rfl, hq⟩ | ⟨rfl, h1, hsg⟩
  · refine ⟨by omega, by omega, hm, 1, Or.inl ⟨rfl, ?_⟩, by omega, fun k h1 h2 => hall (i + k) (by omega) (by omega)⟩
    intro hsg
    rcases hq with hq | hq
    · omega
    · exact hq hsg
  · exact ⟨by omega, by omega, hm, 2, Or.inr ⟨rfl, hsg⟩, by omega, fun k h1 h2 => hall (i + k) (by omega) (by omega)⟩
end Go.Proofs.Qxb6617244a
