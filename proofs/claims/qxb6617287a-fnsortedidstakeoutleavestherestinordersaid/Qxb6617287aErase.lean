/- What takeOut does to the runs, as lists. -/
import Derived.Test.Qxb6617287aPlain
namespace Go.Proofs.Qxb6617287a

/-- Index r with i taken out. -/
def sh {α : Type} (i : Nat) (f : Nat → α) (r : Nat) : α := if r < i then f r else f (r + 1)
def upd {α : Type} (i : Nat) (v : α) (f : Nat → α) (r : Nat) : α := if r = i then v else f r
theorem sh_lt {α : Type} {i r : Nat} {f : Nat → α} (h : r < i) : sh i f r = f r := by unfold sh; rw [if_pos h]
theorem sh_ge {α : Type} {i r : Nat} {f : Nat → α} (h : ¬ r < i) : sh i f r = f (r + 1) := by unfold sh; rw [if_neg h]
theorem upd_same {α : Type} {i : Nat} {v : α} {f : Nat → α} : upd i v f i = v := by unfold upd; rw [if_pos rfl]
theorem upd_ne {α : Type} {i r : Nat} {v : α} {f : Nat → α} (h : r ≠ i) : upd i v f r = f r := by unfold upd; rw [if_neg h]

theorem rowL_congr {S S' : Nat → Nat → ByteArray} {L L' : Nat → Nat} {r q : Nat} (hL : L r = L' q) (hS : S r = S' q) : rowL S L r = rowL S' L' q := by unfold rowL; rw [hL, hS]
theorem flatL_congr {S S' : Nat → Nat → ByteArray} {L L' : Nat → Nat} {k : Nat} (h : ∀ r, r < k → L r = L' r ∧ S r = S' r) : flatL S L k = flatL S' L' k := by
  induction k with
  | zero => rfl
  | succ k ih =>
    simp only [flatL]
    rw [ih (fun r hr => h r (by omega)), rowL_congr (h k (by omega)).1 (h k (by omega)).2]
theorem sumL_congr {L L' : Nat → Nat} {k : Nat} (h : ∀ r, r < k → L r = L' r) : sumL L k = sumL L' k := by
  induction k with
  | zero => rfl
  | succ k ih =>
    simp only [sumL]
    rw [ih (fun r hr => h r (by omega)), h k (by omega)]

theorem rowL_erase (T : Nat → Nat → ByteArray) (ln : Nat → Nat) (i at' : Nat) (hat : at' < ln i) : rowL (upd i (sh at' (T i)) T) (upd i (ln i - 1) ln) i = (rowL T ln i).eraseIdx at' := by
  unfold rowL
  rw [upd_same, upd_same]
  apply List.ext_getElem?
  intro j
  rw [List.getElem?_eraseIdx]
  by_cases hj : j < ln i - 1
  · rw [List.getElem?_map, List.getElem?_range hj]
    by_cases c : j < at'
    · rw [if_pos c, List.getElem?_map, List.getElem?_range (by omega)]
      simp [sh_lt c]
    · rw [if_neg c, List.getElem?_map, List.getElem?_range (by omega)]
      simp [sh_ge c]
  · have h1 : ((List.range (ln i - 1)).map (sh at' (T i)))[j]? = none := by simp; omega
    rw [h1]
    split
    · omega
    · exact (List.getElem?_eq_none (by simp; omega)).symm

theorem flat_cut (T : Nat → Nat → ByteArray) (ln : Nat → Nat) (i at' : Nat) (hat : at' < ln i) (m : Nat) (hi : i < m) :
    flatL (upd i (sh at' (T i)) T) (upd i (ln i - 1) ln) m = (flatL T ln m).eraseIdx (sumL ln i + at') := by
  induction m with
  | zero => omega
  | succ m ih =>
    by_cases e : i = m
    · subst e
      simp only [flatL]
      rw [rowL_erase T ln i at' hat, flatL_congr (S' := T) (L' := ln) (k := i) (fun r hr => ⟨upd_ne (by omega), upd_ne (by omega)⟩)]
      rw [List.eraseIdx_append_of_length_le (by rw [length_flatL]; omega), length_flatL]
      congr 2
      omega
    · simp only [flatL]
      have hlt : sumL ln i + at' < (flatL T ln m).length := by
        rw [length_flatL]
        have := sumL_mono ln (show i + 1 ≤ m by omega)
        simp only [sumL] at this
        omega
      rw [ih (by omega), List.eraseIdx_append_of_lt_length hlt, rowL_congr (S' := T) (L' := ln) (q := m) (upd_ne (by omega)) (upd_ne (by omega))]

theorem flat_drop (T : Nat → Nat → ByteArray) (ln : Nat → Nat) (i : Nat) (h1 : ln i = 1) (m : Nat) (hi : i < m) :
    flatL (sh i T) (sh i ln) (m - 1) = (flatL T ln m).eraseIdx (sumL ln i) := by
  induction m with
  | zero => omega
  | succ m ih =>
    by_cases e : i = m
    · subst e
      show flatL (sh i T) (sh i ln) i = _
      simp only [flatL]
      rw [flatL_congr (S' := T) (L' := ln) (k := i) (fun r hr => ⟨sh_lt hr, sh_lt hr⟩)]
      rw [List.eraseIdx_append_of_length_le (by rw [length_flatL]; omega), length_flatL, Nat.sub_self]
      have : rowL T ln i = [T i 0] := by unfold rowL; rw [h1]; rfl
      rw [this]
      simp
    · obtain ⟨q, rfl⟩ : ∃ q, m = q + 1 := ⟨m - 1, by omega⟩
      show flatL (sh i T) (sh i ln) q ++ rowL (sh i T) (sh i ln) q = (flatL T ln (q + 1) ++ rowL T ln (q + 1)).eraseIdx _
      have hlt : sumL ln i < (flatL T ln (q + 1)).length := by
        rw [length_flatL]
        have := sumL_mono ln (show i + 1 ≤ q + 1 by omega)
        simp only [sumL] at this ⊢
        omega
      have ih' : flatL (sh i T) (sh i ln) q = (flatL T ln (q + 1)).eraseIdx (sumL ln i) := ih (by omega)
      rw [ih', List.eraseIdx_append_of_lt_length hlt, rowL_congr (S := sh i T) (L := sh i ln) (S' := T) (L' := ln) (r := q) (q := q + 1) (sh_ge (by omega)) (sh_ge (by omega))]

/-- What takeOut does to lengths and strings. -/
def TakeP (m i at' : Nat) (ln : Nat → Nat) (T : Nat → Nat → ByteArray) (m' : Nat) (ln' : Nat → Nat) (T' : Nat → Nat → ByteArray) : Prop :=
  (ln i = 1 ∧ m' = m - 1 ∧ ln' = sh i ln ∧ T' = sh i T) ∨ (ln i ≠ 1 ∧ m' = m ∧ ln' = upd i (ln i - 1) ln ∧ T' = upd i (sh at' (T i)) T)

theorem TakeP.flat {m i at' m' : Nat} {ln ln' : Nat → Nat} {T T' : Nat → Nat → ByteArray} (h : TakeP m i at' ln T m' ln' T') (hi : i < m) (hat : at' < ln i) : flatL T' ln' m' = (flatL T ln m).eraseIdx (sumL ln i + at') := by
  rcases h with ⟨h1, rfl, rfl, rfl⟩ | ⟨h1, rfl, rfl, rfl⟩
  · have : at' = 0 := by omega
    rw [this, Nat.add_zero]
    exact flat_drop T ln i h1 m hi
  · exact flat_cut T ln i at' hat m' hi
theorem TakeP.pos {m i at' m' : Nat} {ln ln' : Nat → Nat} {T T' : Nat → Nat → ByteArray} (h : TakeP m i at' ln T m' ln' T') (hi : i < m) (hp : ∀ r, r < m → 0 < ln r) : ∀ r, r < m' → 0 < ln' r := by
  intro r hr
  rcases h with ⟨h1, rfl, rfl, rfl⟩ | ⟨h1, rfl, rfl, rfl⟩
  · by_cases c : r < i
    · rw [sh_lt c]; exact hp r (by omega)
    · rw [sh_ge c]; exact hp (r + 1) (by omega)
  · by_cases c : r = i
    · subst c; rw [upd_same]; have := hp r hr; omega
    · rw [upd_ne c]; exact hp r hr

theorem flat_first (T : Nat → Nat → ByteArray) (ln : Nat → Nat) (m : Nat) (hm : 0 < m) (h0 : 0 < ln 0) : (flatL T ln m)[0]? = some (T 0 0) := by
  induction m with
  | zero => omega
  | succ m ih =>
    simp only [flatL]
    by_cases e : m = 0
    · subst e
      simp [flatL, rowL, h0]
    · rw [List.getElem?_append_left (by
        rw [length_flatL]
        have := sumL_mono ln (show 1 ≤ m by omega)
        simp only [sumL] at this
        omega)]
      exact ih (by omega)
theorem flat_last (T : Nat → Nat → ByteArray) (ln : Nat → Nat) (m : Nat) (hm : 0 < m) (h0 : 0 < ln (m - 1)) : (flatL T ln m)[sumL ln m - 1]? = some (T (m - 1) (ln (m - 1) - 1)) := by
  have e : m - 1 + 1 = m := by omega
  have e1 : flatL T ln m = flatL T ln (m - 1) ++ rowL T ln (m - 1) := by rw [← e]; rfl
  have e2 : sumL ln m = sumL ln (m - 1) + ln (m - 1) := by rw [← e]; rfl
  rw [e1, e2, List.getElem?_append_right (by rw [length_flatL]; omega), length_flatL]
  have e3 : sumL ln (m - 1) + ln (m - 1) - 1 - sumL ln (m - 1) = ln (m - 1) - 1 := by omega
  rw [e3]
  unfold rowL
  rw [List.getElem?_map, List.getElem?_range (by omega)]
  rfl

theorem flat_none {T : Nat → Nat → ByteArray} {ln : Nat → Nat} {m : Nat} (h : flatL T ln m = []) (hp : ∀ r, r < m → 0 < ln r) : m = 0 := by
  apply Classical.byContradiction
  intro hm
  have := flat_first T ln m (by omega) (hp 0 (by omega))
  rw [h] at this
  cases this

/-- The window of a deque. -/
theorem win_front {F : List ByteArray} {lo k : Nat} (h : lo + k ≤ F.length) (hk : 0 < k) : ((F.drop lo).take k)[0]? = F[lo]? ∧ ((F.drop lo).take k).eraseIdx 0 = (F.drop (lo + 1)).take (k - 1) := by
  constructor
  · rw [List.getElem?_take_of_lt hk, List.getElem?_drop]; rfl
  · apply List.ext_getElem?
    intro j
    rw [List.getElem?_eraseIdx, if_neg (by omega)]
    by_cases c : j < k - 1
    · rw [List.getElem?_take_of_lt (by omega), List.getElem?_take_of_lt c, List.getElem?_drop, List.getElem?_drop]
      congr 1
      omega
    · rw [List.getElem?_eq_none (by simp; omega), List.getElem?_eq_none (by simp; omega)]
theorem win_back {F : List ByteArray} {lo k : Nat} (h : lo + k ≤ F.length) (hk : 0 < k) : ((F.drop lo).take k)[k - 1]? = F[lo + k - 1]? ∧ ((F.drop lo).take k).eraseIdx (k - 1) = (F.drop lo).take (k - 1) := by
  constructor
  · rw [List.getElem?_take_of_lt (by omega), List.getElem?_drop]
    congr 1
    omega
  · apply List.ext_getElem?
    intro j
    rw [List.getElem?_eraseIdx]
    by_cases c : j < k - 1
    · rw [if_pos c, List.getElem?_take_of_lt (by omega), List.getElem?_take_of_lt c]
    · rw [if_neg c, List.getElem?_eq_none (by simp; omega), List.getElem?_eq_none (by simp; omega)]
end Go.Proofs.Qxb6617287a
