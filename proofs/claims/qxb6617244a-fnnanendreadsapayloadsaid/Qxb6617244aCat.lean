import Derived.Test.Qxb6617244aParts
namespace Go.Proofs.Qxb6617244a
open Go.RowKit

/-- What a walk is told of a slice of bytes: nil, or its elements' cells. -/
def SlIn (w : World) (a : Option Addr) (len cap : Nat) (g : Nat → Int) : Prop :=
  (a = none → len = 0 ∧ cap = 0) ∧ ∀ x, a = some x → ∀ k, k < len → w.cell? (x.add k) = some (.int .u8 (g k))

def catg (g0 : Nat → Int) (l0 : Nat) (g1 : Nat → Int) (k : Nat) : Int := if k < l0 then g0 k else g1 (k - l0)

theorem SlIn.below {w w' : World} {a : Option Addr} {len cap : Nat} {g : Nat → Int} (h : SlIn w a len cap g) (hb : Below w.heap.size w w') : SlIn w' a len cap g :=
  ⟨h.1, fun x hx k hk => by
    have hc := h.2 x hx k hk
    rw [hb.cell (World.block_lt_of_cell? _ _ hc)]
    exact hc⟩

theorem news_of (len : Nat) (g : Nat → Int) : ∃ N : List Value, N.length = len ∧ (∀ j, j < len → N[j]? = some (.int .u8 (g j))) ∧ ∀ u ∈ N, u.oneCell' = true :=
  ⟨(List.range len).map fun k => .int .u8 (g k), by simp, fun j hj => by simp [hj], fun u hu => by
    obtain ⟨_, _, rfl⟩ := List.mem_map.1 hu
    rfl⟩

theorem news_cells {w : World} {a : Option Addr} {len cap : Nat} {g : Nat → Int} {N : List Value} (h : SlIn w a len cap g) (na : N.length = len) (nb : ∀ j, j < len → N[j]? = some (.int .u8 (g j))) :
    ∀ ad, a = some ad → ∀ j u, N[j]? = some u → w.cell? (ad.add j) = some u := by
  intro ad had j u hu
  have hj : j < len := by
    have := (List.getElem?_eq_some_iff.1 hu).1
    omega
  rw [h.2 ad had j hj, ← nb j hj, hu]

set_option maxHeartbeats 1000000 in
theorem zzCat_any (a0 a1 : Option Addr) (l0 c0 l1 c1 : Nat) (g0 g1 : Nat → Int) (w : World) (h0 : SlIn w a0 l0 c0 g0) (h1 : SlIn w a1 l1 c1 g1) (hb0 : l0 ≤ 100000000) (hb1 : l1 ≤ 100000000) :
    Calls Try.prog 13 #[.slice a0 l0 c0, .slice a1 l1 c1] w fun e w' => e = .returned (.slice (some ⟨w.heap.size, 0, none⟩) (l0 + l1) (l0 + l1)) ∧ Below w.heap.size w w' ∧ w.heap.size < w'.heap.size ∧
      ∀ k, k < l0 + l1 → w'.cell? ⟨w.heap.size, k, none⟩ = some (.int .u8 (catg g0 l0 g1 k)) := by
  obtain ⟨i0, hi0, hz0, hz1, hz2⟩ := info_parts Try.info5
  obtain ⟨N0, n0a, n0b, n0c⟩ := news_of l0 g0
  obtain ⟨N1, n1a, n1b, n1c⟩ := news_of l1 g1
  go_enter Try.func13, Try.ntmps13
  go_wp2_with (first | (at_make; refine wpList_make_own _ rfl _ _ 22 rfl w.heap.size 5 i0 (.int .u8 0) 1 Try.underlying22 hi0 hz0 hz1 _ _ _ (l0 + l1) rfl rfl (by omega) (by rw [hz2]; omega) (by unfold maxLen; omega) (Nat.le_refl _) ?_))
  intro w1 hown1 hgrow1
  have hb1 : Below w.heap.size w w1 := (Below.refl _ _).grown hgrow1 (Nat.le_refl _) (fun k e => by cases e)
  have s1 : w.heap.size < w1.heap.size := (hown1.lt _ rfl).2
  have h0' := h0.below hb1
  go_wp2_with (at_builtin; refine wpList_append_fits_any _ rfl (.tmp 12) (.tmp 13) 22 rfl w.heap.size 5 i0 1 Try.underlying22 hi0 hz1 w.heap.size 0 (l0 + l1) [] rfl hown1 a0 l0 c0 N0 rfl (by rw [n0a]; simp) h0'.1 ?_ n0c (by omega) ?_)
  · exact news_cells h0' n0a n0b
  · intro w2 hown2 hgrow2
    have hb2 : Below w.heap.size w1 w2 := (Below.refl _ _).grown hgrow2 (by omega) (fun k e => by simp at e; omega)
    have s2 : w.heap.size < w2.heap.size := Nat.lt_of_lt_of_le s1 hb2.size
    have h1'' : SlIn w2 a1 l1 c1 g1 := h1.below (hb1.trans hb2)
    clear h0' hown1 hgrow1 hgrow2 h0 h1
    go_wp2_with (at_builtin; refine wpList_append_fits_any _ rfl (.tmp 15) (.tmp 16) 22 rfl w.heap.size 5 i0 1 Try.underlying22 hi0 hz1 w.heap.size l0 (l0 + l1) N0 rfl hown2 a1 l1 c1 N1 rfl (by rw [n1a]; simp) h1''.1 ?_ n1c (by omega) ?_)
    · exact news_cells h1'' n1a n1b
    · intro w3 hown3 hgrow3
      have hb3 : Below w.heap.size w2 w3 := (Below.refl _ _).grown hgrow3 (by omega) (fun k e => by simp at e; omega)
      have hb : Below w.heap.size w w3 := (hb1.trans hb2).trans hb3
      have s3 : w.heap.size < w3.heap.size := Nat.lt_of_lt_of_le s2 hb3.size
      have R : Hid (∀ k, k < l0 + l1 → w3.cell? ⟨w.heap.size, k, none⟩ = some (.int .u8 (catg g0 l0 g1 k))) := show ∀ k, k < l0 + l1 → w3.cell? ⟨w.heap.size, k, none⟩ = some (.int .u8 (catg g0 l0 g1 k)) from fun k hk => by
        rw [hown3.cellAt k (by omega)]
        unfold catg
        by_cases e : k < l0
        · rw [if_pos e, List.getElem?_append_left (by omega)]
          exact n0b k e
        · rw [if_neg e, List.getElem?_append_right (by omega), n0a]
          exact n1b (k - l0) (by omega)
      clear hown2 hown3 hgrow3 h1'' hb1 hb2 hb3
      go_wp2
      go_ret
      exact ⟨rfl, hb, s3, R.out⟩
end Go.Proofs.Qxb6617244a
