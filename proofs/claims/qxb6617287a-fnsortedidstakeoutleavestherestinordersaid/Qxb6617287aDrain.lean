import Derived.Test.Qxb6617287aTake
namespace Go.Proofs.Qxb6617287a
open Go.RowKit

/-- The list 'all' lies in block g. -/
def AllC (w : World) (g : Nat) (F : List ByteArray) : Prop := ∀ k X, F[k]? = some X → w.cell? ⟨g, k, none⟩ = some (.string X)
theorem AllC.below {w w' : World} {g B : Nat} {F : List ByteArray} (h : AllC w g F) (hg : g < B) (hb : Below B w w') : AllC w' g F := fun k X hk => (hb.cell (p := ⟨g, k, none⟩) hg).trans (h k X hk)
theorem allC_of {w : World} {base N : Nat} {S : Nat → Nat → ByteArray} {L : Nat → Nat} {n : Nat} (h : w.ownsRow base 9 1 (.slice (some ⟨base, 0, none⟩) N N) N (Gath S L n 0)) (hN : N = sumL L n) : AllC w base (flatL S L n) := by
  intro k X hk
  have hlt : k < N := by
    have := (List.getElem?_eq_some_iff.1 hk).1
    rw [length_flatL] at this
    omega
  rw [h.cellAt k (by omega)]
  simp [Gath, hk]

theorem le_sumL (L : Nat → Nat) {r n : Nat} (h : r < n) : L r ≤ sumL L n := by
  have := sumL_mono L (show r + 1 ≤ n from h)
  simp only [sumL] at this
  omega

/-- The sortedIDs as ZZNewSortedIDs lays it. -/
theorem st_new {wA wB : World} {n : Nat} {G L : Nat → Nat} {S : Nat → Nat → ByteArray} (hrs : Rs wB wA.heap.size wA.heap.size n n G L L S) (hb : Below wA.heap.size wA wB) (hn : n ≤ 65536) (hL : ∀ r, r < n → L r ≤ 65536) :
    St (wB.alloc (.cells #[.slice (some ⟨wA.heap.size, 0, none⟩) n n] 38)) wA.heap.size wB.heap.size wA.heap.size n n G L L S :=
  ⟨ptr_new _ _, hb.size, hrs.below ((Below.refl _ _).alloc (Nat.le_refl _) _), hn, fun r hr => by have := hL r hr; omega⟩

/-- What a round of the drain knows. -/
structure Dr (F : List ByteArray) (st lo m : Nat) (ln : Nat → Nat) (T : Nat → Nat → ByteArray) : Prop where
  le : st ≤ F.length
  low : lo ≤ st
  flat : flatL T ln m = (F.drop lo).take (F.length - st)
  pos : ∀ r, r < m → 0 < ln r

theorem Dr.sum {F : List ByteArray} {st lo m : Nat} {ln : Nat → Nat} {T : Nat → Nat → ByteArray} (h : Dr F st lo m ln T) : sumL ln m = F.length - st := by
  rw [← length_flatL T ln m, h.flat]
  have := h.le; have := h.low
  simp
  omega
theorem Dr.isSome {F : List ByteArray} {st lo m : Nat} {ln : Nat → Nat} {T : Nat → Nat → ByteArray} (h : Dr F st lo m ln T) (hs : st < F.length) : 0 < m := by
  have := h.sum
  apply Classical.byContradiction
  intro hm
  have : m = 0 := by omega
  subst this
  simp [sumL] at this
  omega
theorem Dr.isNone {F : List ByteArray} {st lo m : Nat} {ln : Nat → Nat} {T : Nat → Nat → ByteArray} (h : Dr F st lo m ln T) (hs : ¬ st < F.length) : m = 0 := by
  refine flat_none (T := T) (ln := ln) ?_ h.pos
  rw [h.flat]
  have : F.length - st = 0 := by omega
  rw [this]
  rfl
theorem Dr.front {F : List ByteArray} {st lo m : Nat} {ln : Nat → Nat} {T : Nat → Nat → ByteArray} (h : Dr F st lo m ln T) (hs : st < F.length) : F[lo]? = some (T 0 0) := by
  have hm := h.isSome hs
  have h1 := flat_first T ln m hm (h.pos 0 hm)
  have := h.le; have := h.low
  rw [h.flat, (win_front (by omega) (by omega)).1] at h1
  exact h1
theorem Dr.back {F : List ByteArray} {st lo m : Nat} {ln : Nat → Nat} {T : Nat → Nat → ByteArray} (h : Dr F st lo m ln T) (hs : st < F.length) : F[lo + (F.length - st) - 1]? = some (T (m - 1) (ln (m - 1) - 1)) := by
  have hm := h.isSome hs
  have h1 := flat_last T ln m hm (h.pos (m - 1) (by omega))
  have := h.le; have := h.low
  rw [h.sum, h.flat, (win_back (by omega) (by omega)).1] at h1
  exact h1
theorem Dr.stepFront {F : List ByteArray} {st lo m m' : Nat} {ln ln' : Nat → Nat} {T T' : Nat → Nat → ByteArray} (h : Dr F st lo m ln T) (hs : st < F.length) (ht : TakeP m 0 0 ln T m' ln' T') : Dr F (st + 1) (lo + 1) m' ln' T' := by
  have hm := h.isSome hs
  have := h.le; have := h.low
  refine ⟨by omega, by omega, ?_, ht.pos hm h.pos⟩
  rw [ht.flat hm (h.pos 0 hm), h.flat]
  simp only [sumL, Nat.add_zero]
  rw [(win_front (by omega) (by omega)).2, Nat.sub_sub]
theorem Dr.stepBack {F : List ByteArray} {st lo m m' : Nat} {ln ln' : Nat → Nat} {T T' : Nat → Nat → ByteArray} (h : Dr F st lo m ln T) (hs : st < F.length) (ht : TakeP m (m - 1) (ln (m - 1) - 1) ln T m' ln' T') : Dr F (st + 1) lo m' ln' T' := by
  have hm := h.isSome hs
  have hp := h.pos (m - 1) (by omega)
  have := h.le; have := h.low
  have hsum := h.sum
  have e2 : sumL ln m = sumL ln (m - 1) + ln (m - 1) := by
    obtain ⟨q, rfl⟩ : ∃ q, m = q + 1 := ⟨m - 1, by omega⟩
    rfl
  refine ⟨by omega, by omega, ?_, ht.pos (by omega) h.pos⟩
  rw [ht.flat (by omega) (by omega), h.flat]
  rw [show sumL ln (m - 1) + (ln (m - 1) - 1) = F.length - st - 1 by omega, (win_back (by omega) (by omega)).2, Nat.sub_sub]
end Go.Proofs.Qxb6617287a
