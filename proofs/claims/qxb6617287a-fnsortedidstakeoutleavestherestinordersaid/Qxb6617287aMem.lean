import Derived.Test.Qxb6617287aFlat
import Derived.Laws.CopyOwn
namespace Go.Proofs.Qxb6617287a
open Go.RowKit

theorem eql22_some (x : Addr) (len cap : Nat) (w : World) : (binOp .eql 22 (.slice (some x) len cap) (.slice none 0 0)).run Try.prog w = .ok (.bool false) w := by
  simpa using Lib.run_eql_slice_nil (P := Try.prog) w 22 27 (some x) len cap 0 0 Try.underlying22
theorem eql22_none (w : World) : (binOp .eql 22 (.slice none 0 0) (.slice none 0 0)).run Try.prog w = .ok (.bool true) w := by
  simpa using Lib.run_eql_slice_nil (P := Try.prog) w 22 27 none 0 0 0 0 Try.underlying22
theorem eql27_some (x : Addr) (len cap : Nat) (w : World) : (binOp .eql 27 (.slice (some x) len cap) (.slice none 0 0)).run Try.prog w = .ok (.bool false) w := by
  simpa using Lib.run_eql_slice_nil (P := Try.prog) w 27 9 (some x) len cap 0 0 Try.underlying27

/-- A block of cap cells of type t, not frozen, whose first len cells are V. -/
def Row (w : World) (t g len cap : Nat) (V : Nat → Value) : Prop :=
  ∃ cs : List Value, w.heap[g]? = some (.cells cs.toArray t (0, 0)) ∧ cs.length = cap ∧ len ≤ cap ∧ ∀ j, j < len → cs[j]? = some (V j)

section
variable {w w' : World} {t g len cap : Nat} {V : Nat → Value}

theorem Row.lt (h : Row w t g len cap V) : g < w.heap.size := by
  obtain ⟨cs, h1, _⟩ := h
  exact (Array.getElem?_eq_some_iff.1 h1).1
theorem Row.fits (h : Row w t g len cap V) : len ≤ cap := by
  obtain ⟨_, _, _, h1, _⟩ := h
  exact h1
theorem Row.of_block (h : Row w t g len cap V) (hb : w'.heap[g]? = w.heap[g]?) : Row w' t g len cap V := by
  obtain ⟨cs, h1, h2⟩ := h
  exact ⟨cs, hb.trans h1, h2⟩
theorem Row.below (h : Row w t g len cap V) (hb : Below w.heap.size w w') : Row w' t g len cap V := h.of_block (hb.block g h.lt)
theorem Row.cell (h : Row w t g len cap V) {j : Nat} (hj : j < len) : w.cell? ⟨g, j, none⟩ = some (V j) := by
  obtain ⟨cs, h1, _, _, h2⟩ := h
  simp only [World.cell?, h1]
  simpa using h2 j hj
theorem Row.ex (h : Row w t g len cap V) {j : Nat} (hj : j < cap) : ∃ v, w.cell? ⟨g, j, none⟩ = some v := by
  obtain ⟨cs, h1, h2, _, _⟩ := h
  refine ⟨cs[j]'(by omega), ?_⟩
  simp only [World.cell?, h1]
  simp
theorem Row.free (h : Row w t g len cap V) (j : Nat) : w.frozen? ⟨g, j, none⟩ = false := by
  obtain ⟨cs, h1, _⟩ := h
  simp [World.frozen?, h1]
theorem Row.ne {t' g' len' cap' : Nat} {V' : Nat → Value} (h : Row w t g len cap V) (h' : Row w t' g' len' cap' V') (ht : t ≠ t') : g ≠ g' := by
  rintro rfl
  obtain ⟨cs, h1, _⟩ := h
  obtain ⟨cs', h1', _⟩ := h'
  rw [h1] at h1'
  simp at h1'
  exact ht h1'.2
theorem Row.shrink (h : Row w t g len cap V) {len' : Nat} (hl : len' ≤ len) : Row w t g len' cap V := by
  obtain ⟨cs, h1, h2, h3, h4⟩ := h
  exact ⟨cs, h1, h2, by omega, fun j hj => h4 j (by omega)⟩
theorem Row.congr (h : Row w t g len cap V) {V' : Nat → Value} (hV : ∀ j, j < len → V j = V' j) : Row w t g len cap V' := by
  obtain ⟨cs, h1, h2, h3, h4⟩ := h
  exact ⟨cs, h1, h2, h3, fun j hj => by rw [h4 j hj, hV j hj]⟩

theorem heap_setCell_at {cs : List Value} (h1 : w.heap[g]? = some (.cells cs.toArray t (0, 0))) (j : Nat) (v : Value) : (w.setCell ⟨g, j, none⟩ v).heap[g]? = some (.cells (cs.set j v).toArray t (0, 0)) := by
  rw [setCell_eq_setRow w g j cs.toArray t (0, 0) v h1]
  have := setRow_heap w g cs.toArray (cs.toArray.setIfInBounds j v) t (0, 0) h1
  rw [this]
  simp

theorem Row.set (h : Row w t g len cap V) {j : Nat} (hj : j < cap) (v : Value) : Row (w.setCell ⟨g, j, none⟩ v) t g len cap (fun q => if q = j then v else V q) := by
  obtain ⟨cs, h1, h2, h3, h4⟩ := h
  refine ⟨cs.set j v, heap_setCell_at h1 j v, by simpa using h2, h3, fun q hq => ?_⟩
  show (cs.set j v)[q]? = some (if q = j then v else V q)
  by_cases e : q = j
  · subst e
    rw [if_pos rfl, List.getElem?_set_self (by omega)]
  · rw [if_neg e, List.getElem?_set_ne (by omega)]
    exact h4 q hq
theorem Row.push (h : Row w t g len cap V) (hj : len < cap) : Row (w.setCell ⟨g, len, none⟩ (V len)) t g (len + 1) cap V := by
  obtain ⟨cs, h1, h2, h3, h4⟩ := h
  refine ⟨cs.set len (V len), heap_setCell_at h1 len (V len), by simpa using h2, by omega, fun q hq => ?_⟩
  by_cases e : q = len
  · subst e
    rw [List.getElem?_set_self (by omega)]
  · rw [List.getElem?_set_ne (by omega)]
    exact h4 q (by omega)
theorem Row.other (h : Row w t g len cap V) {a : Addr} (ha : g ≠ a.block) (v : Value) : Row (w.setCell a v) t g len cap V := h.of_block (Below.heap_setCell w a v g ha)
theorem Row.setRow_other (h : Row w t g len cap V) {k : Nat} (ha : g ≠ k) (cs : Array Value) : Row (w.setRow k cs) t g len cap V := h.of_block (Go.setRow_other w k g cs ha)

theorem Row.of_owns {base n : Nat} {xs : List Value} (h : w.ownsRow base t 1 (.slice (some ⟨g, 0, none⟩) n cap) n xs) (hx : ∀ j, j < n → xs[j]? = some (V j)) : Row w t g n cap V := by
  rcases h.2 with ⟨h', _⟩ | ⟨g', cap', cur, h', hb, hg, hnc, hcm, hcs, htake⟩
  · simp at h'
  · simp only [Value.slice.injEq, Option.some.injEq, Addr.mk.injEq, and_true, true_and] at h'
    obtain ⟨rfl, rfl⟩ := h'
    refine ⟨cur.toList, by simpa using hg, by simpa using hcs, hnc, fun j hj => ?_⟩
    rw [← hx j hj, ← htake, Nat.mul_one, List.getElem?_take_of_lt hj]
theorem Row.fresh {base n : Nat} {xs : List Value} (h : w.ownsRow base t 1 (.slice (some ⟨g, 0, none⟩) n cap) n xs) (V : Nat → Value) : Row w t g 0 cap V := by
  rcases h.2 with ⟨h', _⟩ | ⟨g', cap', cur, h', hb, hg, hnc, hcm, hcs, htake⟩
  · simp at h'
  · simp only [Value.slice.injEq, Option.some.injEq, Addr.mk.injEq, and_true, true_and] at h'
    obtain ⟨rfl, rfl⟩ := h'
    exact ⟨cur.toList, by simpa using hg, by simpa using hcs, Nat.zero_le _, fun j hj => by omega⟩
end

/-- copy(x[i:], x[i+1:]) within one row. -/
def shiftV (V : Nat → Value) (i len : Nat) (j : Nat) : Value := if i ≤ j ∧ j < len - 1 then V (j + 1) else V j

theorem Row.shifted {w : World} {t g len cap : Nat} {V : Nat → Value} (h : Row w t g len cap V) {i : Nat} (hi : i < len) (cs : List Value) (hcs : w.heap[g]? = some (.cells cs.toArray t (0, 0))) :
    Row (w.setRow g (cs.take i ++ (((List.range (len - 1 - i)).map fun q => V (i + 1 + q)) ++ cs.drop (i + (len - 1 - i)))).toArray) t g len cap (shiftV V i len) := by
  obtain ⟨cs', h1, h2, h3, h4⟩ := h
  rw [hcs] at h1
  simp at h1
  subst h1
  refine ⟨_, setRow_heap w g cs.toArray _ t (0, 0) hcs, by simp; omega, h3, fun j hj => ?_⟩
  unfold shiftV
  by_cases c1 : j < i
  · rw [if_neg (by omega), List.getElem?_append_left (by simp; omega), List.getElem?_take_of_lt c1]
    exact h4 j hj
  · have e1 : (List.take i cs).length = i := by simp; omega
    rw [List.getElem?_append_right (by omega), e1]
    by_cases c2 : j < len - 1
    · rw [if_pos ⟨by omega, c2⟩, List.getElem?_append_left (by simp; omega)]
      rw [List.getElem?_map, List.getElem?_range (by omega)]
      simp only [Option.map_some]
      congr 2
      omega
    · rw [if_neg (by omega), List.getElem?_append_right (by simp; omega)]
      have e2 : j = len - 1 := by omega
      subst e2
      rw [List.getElem?_drop]
      rw [← h4 (len - 1) hj]
      congr 1
      simp
      omega
end Go.Proofs.Qxb6617287a
