import Derived.Test.Qxb6617244aCat
namespace Go.Proofs.Qxb6617244a
open Go.RowKit

theorem catg_rng {g0 g1 : Nat → Int} (l0 : Nat) (h0 : ∀ k, 0 ≤ g0 k ∧ g0 k ≤ 255) (h1 : ∀ k, 0 ≤ g1 k ∧ g1 k ≤ 255) : ∀ k, 0 ≤ catg g0 l0 g1 k ∧ catg g0 l0 g1 k ≤ 255 := fun k => by
  unfold catg
  split
  · exact h0 _
  · exact h1 _

theorem SlIn.cells {w : World} {b len cap : Nat} {g : Nat → Int} (h : SlIn w (some ⟨b, 0, none⟩) len cap g) : ∀ k, k < len → w.cell? ⟨b, 0 + k, none⟩ = some (.int .u8 (g k)) := fun k hk => by
  have := h.2 _ rfl k hk
  rwa [Addr.add_lit] at this

/-- zzCat, its new block named by a letter. -/
theorem zzCat_named (a0 a1 : Option Addr) (l0 c0 l1 c1 : Nat) (g0 g1 : Nat → Int) (w : World) (h0 : SlIn w a0 l0 c0 g0) (h1 : SlIn w a1 l1 c1 g1) (hb0 : l0 ≤ 100000000) (hb1 : l1 ≤ 100000000) :
    Calls Try.prog 13 #[.slice a0 l0 c0, .slice a1 l1 c1] w fun e w' => ∃ B, e = .returned (.slice (some ⟨B, 0, none⟩) (l0 + l1) (l0 + l1)) ∧ Below w.heap.size w w' ∧ SlIn w' (some ⟨B, 0, none⟩) (l0 + l1) (l0 + l1) (catg g0 l0 g1) :=
  (zzCat_any a0 a1 l0 c0 l1 c1 g0 g1 w h0 h1 hb0 hb1).mono fun _ w' ⟨he, hb, _, hc⟩ => ⟨w.heap.size, he, hb, fun e => (by cases e), fun y hy k hk => (by cases hy; rw [Addr.add_lit]; simpa using hc k hk)⟩

/-- p(w)s -/
theorem nan_pays {gp gw gs go gc : Nat → Int} {lp lw ls r : Nat} (ho : go 0 = 40) (hc : gc 0 = 41) (hw : ∀ k, k < lw → wordB (gw k) = true)
    (h : NanR (catg (catg (catg (catg gp lp go) (lp + 1) gw) (lp + 1 + lw) gc) (lp + 1 + lw + 1) gs) (lp + 1 + lw + 1 + ls) lp r) : r = lp + lw + 2 := by
  have e0 : catg (catg (catg (catg gp lp go) (lp + 1) gw) (lp + 1 + lw) gc) (lp + 1 + lw + 1) gs lp = 40 := by
    unfold catg
    rw [if_pos (by omega), if_pos (by omega), if_pos (by omega), if_neg (by omega), Nat.sub_self]
    exact ho
  have e1 : ∀ k, lp < k → k < lp + 1 + lw → wordB (catg (catg (catg (catg gp lp go) (lp + 1) gw) (lp + 1 + lw) gc) (lp + 1 + lw + 1) gs k) = true := fun k h1 h2 => by
    unfold catg
    rw [if_pos (by omega), if_pos (by omega), if_neg (by omega)]
    exact hw _ (by omega)
  have e2 : catg (catg (catg (catg gp lp go) (lp + 1) gw) (lp + 1 + lw) gc) (lp + 1 + lw + 1) gs (lp + 1 + lw) = 41 := by
    unfold catg
    rw [if_pos (by omega), if_neg (by omega), Nat.sub_self]
    exact hc
  generalize catg (catg (catg (catg gp lp go) (lp + 1) gw) (lp + 1 + lw) gc) (lp + 1 + lw + 1) gs = gx at *
  have w41 : wordB 41 = false := rfl
  rcases h with ⟨_, h | h | ⟨j, h1, h2, h3, h4⟩⟩ | ⟨_, _, j, h1, h2, h3, h4, h5⟩
  · omega
  · exact absurd e0 h
  · exfalso
    by_cases c1 : lp + 1 + lw < j
    · have := h3 (lp + 1 + lw) (by omega) c1
      rw [e2, w41] at this; cases this
    · rcases h4 with h4 | ⟨h4, h5⟩
      · omega
      · by_cases c2 : j = lp + 1 + lw
        · rw [c2] at h5; exact h5 e2
        · rw [e1 j h1 (by omega)] at h4; cases h4
  · by_cases c1 : lp + 1 + lw < j
    · have := h3 (lp + 1 + lw) (by omega) c1
      rw [e2, w41] at this; cases this
    · by_cases c2 : j = lp + 1 + lw
      · omega
      · have := e1 j h1 (by omega)
        rw [h4, w41] at this; cases this

/-- p(ws -/
theorem nan_open {gp gw gs go : Nat → Int} {lp lw ls r : Nat} (hw : ∀ k, k < lw → wordB (gw k) = true) (hs : ls = 0 ∨ (wordB (gs 0) = false ∧ gs 0 ≠ 41))
    (h : NanR (catg (catg (catg gp lp go) (lp + 1) gw) (lp + 1 + lw) gs) (lp + 1 + lw + ls) lp r) : r = lp := by
  have e1 : ∀ k, lp < k → k < lp + 1 + lw → wordB (catg (catg (catg gp lp go) (lp + 1) gw) (lp + 1 + lw) gs k) = true := fun k h1 h2 => by
    unfold catg
    rw [if_pos (by omega), if_neg (by omega)]
    exact hw _ (by omega)
  have e2 : catg (catg (catg gp lp go) (lp + 1) gw) (lp + 1 + lw) gs (lp + 1 + lw) = gs 0 := by
    unfold catg
    rw [if_neg (by omega), Nat.sub_self]
  generalize catg (catg (catg gp lp go) (lp + 1) gw) (lp + 1 + lw) gs = gx at *
  have w41 : wordB 41 = false := rfl
  rcases h with ⟨h, _⟩ | ⟨_, _, j, h1, h2, h3, h4, h5⟩
  · exact h
  · exfalso
    by_cases c1 : j < lp + 1 + lw
    · have := e1 j h1 c1
      rw [h4, w41] at this; cases this
    · rcases hs with hs | ⟨hs1, hs2⟩
      · omega
      · by_cases c2 : j = lp + 1 + lw
        · rw [c2, e2] at h4; exact hs2 h4
        · have := h3 (lp + 1 + lw) (by omega) (by omega)
          rw [e2, hs1] at this; cases this
end Go.Proofs.Qxb6617244a
