import Derived.Test.Qxb6617287aCopy
import Derived.BigQuiet
import Derived.Deep.QuietTactic
namespace Go.Proofs.Qxb6617287a
open Go.RowKit

/-- A row's cells as a list. -/
theorem row_news {w : World} {t g len cap : Nat} {V : Nat → Value} (h : Row w t g len cap V) (hV : ∀ j, j < len → (V j).oneCell' = true) :
    ∃ N : List Value, N.length = len ∧ (∀ j, j < len → N[j]? = some (V j)) ∧ (∀ j u, N[j]? = some u → w.cell? ((⟨g, 0, none⟩ : Addr).add j) = some u) ∧ ∀ u ∈ N, u.oneCell' = true := by
  refine ⟨(List.range len).map V, by simp, fun j hj => by simp [hj], fun j u hu => ?_, fun u hu => ?_⟩
  · have hj : j < len := by
      have := (List.getElem?_eq_some_iff.1 hu).1
      simpa using this
    rw [Addr.add_lit, Nat.zero_add, h.cell hj]
    simp [hj] at hu
    rw [hu]
  · obtain ⟨j, hj, rfl⟩ := List.mem_map.1 hu
    exact hV j (List.mem_range.1 hj)

set_option maxHeartbeats 1000000 in
theorem newRun_any (g len K : Nat) (T : Nat → ByteArray) (w : World) (hl : len ≤ 256) (hrow : Row w 9 g len K (fun j => .string (T j))) :
    Calls Try.prog 22 #[.slice (some ⟨g, 0, none⟩) len K] w fun e w' =>
      e = .returned (.slice (some ⟨w.heap.size, 0, none⟩) len 257) ∧ Below w.heap.size w w' ∧ Row w' 9 w.heap.size len 257 (fun j => .string (T j)) := by
  obtain ⟨i9, hi9, hz0, hz1, hz2⟩ := info_parts Try.info9
  go_enter Try.func22, Try.ntmps22
  go_wp2_with (at_make; refine wpList_make_own _ rfl _ _ 27 rfl w.heap.size 9 i9 (.string ByteArray.empty) 1 Try.underlying27 hi9 hz0 hz1 _ _ _ 257 rfl rfl rfl (by rw [hz2]; omega) (by unfold maxLen; omega) (Nat.le_refl _) ?_)
  intro w1 hown1 hgrow1
  have hb1 : Below w.heap.size w w1 := (Below.refl _ _).grown hgrow1 (Nat.le_refl _) (fun k e => by cases e)
  obtain ⟨N, n1, n2, n3, n4⟩ := row_news (hrow.below hb1) (fun j _ => rfl)
  have hs1 : w.heap.size < w1.heap.size := (hown1.lt _ rfl).2
  clear hgrow1
  go_wp2_with (at_builtin; refine wpList_append_fits _ rfl (.tmp 3) (.tmp 4) 27 rfl w.heap.size 9 i9 1 Try.underlying27 hi9 hz1 w.heap.size 0 257 [] rfl hown1 ⟨g, 0, none⟩ len K N rfl (by rw [n1]; simp) n3 n4 (by omega) ?_)
  intro w2 hown2 hgrow2
  have hb2 : Below w.heap.size w w2 := hb1.grown hgrow2 (by omega) (fun k e => by simp at e; omega)
  have R : Row w2 9 w.heap.size len 257 (fun j => .string (T j)) := Row.of_owns hown2 n2
  clear hown1 hown2 hgrow2 hb1 n1 n2 n3 n4
  go_wp2
  go_ret
  exact ⟨rfl, hb2, R⟩

/-- What ownRun hands back: the run's own block or a new one. -/
def OwnE (w : World) (g len : Nat) (T : Nat → ByteArray) (e : Ending) (w' : World) : Prop :=
  ∃ g' K', e = .returned (.slice (some ⟨g', 0, none⟩) len K') ∧ Below w.heap.size w w' ∧ Row w' 9 g' len K' (fun j => .string (T j)) ∧ (g' = g ∨ w.heap.size ≤ g') ∧ K' ≤ 100000

theorem ownRun_any (g len K : Nat) (T : Nat → ByteArray) (w : World) (hK : K ≤ 100000) (hrow : Row w 9 g len K (fun j => .string (T j))) :
    Calls Try.prog 20 #[.slice (some ⟨g, 0, none⟩) len K] w fun e w' => OwnE w g len T e w' := by
  by_cases hk : 256 < K
  · have hk' : (256 : Int) < (K : Int) := by omega
    go_enter Try.func20, Try.ntmps20
    go_wp2
    go_ret
    exact ⟨g, K, rfl, Below.refl _ _, hrow, Or.inl rfl, hK⟩
  · have hk' : ¬ (256 : Int) < (K : Int) := by omega
    have hl := hrow.fits
    go_enter Try.func20, Try.ntmps20
    go_wp2_with fail
    refine (newRun_any g len K T w (by omega) hrow).mono ?_
    rintro e w1 ⟨rfl, hb, hr⟩
    go_wp2
    go_ret
    exact ⟨w.heap.size, 257, rfl, hb, hr, Or.inr (Nat.le_refl _), by omega⟩
end Go.Proofs.Qxb6617287a
