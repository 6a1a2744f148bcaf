import Derived.Test.Qxb6617287aGuards
namespace Go.Proofs.Qxb6617287a
open Go.RowKit

theorem Try.info9 : (Try.prog.info? 9).map (fun i => (i.zero, i.size, i.bytes)) = some (some (.string ByteArray.empty), 1, 16) := by kernel_rfl
theorem Try.info27 : (Try.prog.info? 27).map (fun i => (i.zero, i.size, i.bytes)) = some (some (.slice none 0 0), 1, 24) := by kernel_rfl

/-- What is gathered so far. -/
def Gath (S : Nat → Nat → ByteArray) (L : Nat → Nat) (r j : Nat) : List Value := (flatL S L r ++ (rowL S L r).take j).map Value.string

theorem gath_zero (S : Nat → Nat → ByteArray) (L : Nat → Nat) : Gath S L 0 0 = [] := by simp [Gath, flatL]
theorem gath_snoc (S : Nat → Nat → ByteArray) (L : Nat → Nat) (r j : Nat) (h : j < L r) : Gath S L r j ++ [.string (S r j)] = Gath S L r (j + 1) := by
  simp [Gath, rowL_take S L r j h]
theorem gath_end (S : Nat → Nat → ByteArray) (L : Nat → Nat) (r : Nat) : Gath S L r (L r) = Gath S L (r + 1) 0 := by
  simp [Gath, flatL, List.take_of_length_le, length_rowL]

set_option maxHeartbeats 1000000 in
theorem flat_some (b off n cap : Nat) (A : Nat → Option Addr) (L C IB JO : Nat → Nat) (S : Nat → Nat → ByteArray) (w : World) (hn : n ≤ 65536) (hN : sumL L n ≤ 65536) (hR : RunsW w b off n A L C IB JO S) :
    Calls Try.prog 8 #[.slice none 0 0, .slice (some ⟨b, off, none⟩) n cap] w fun e w' =>
      e = .returned (.slice (some ⟨w.heap.size, 0, none⟩) (sumL L n) (sumL L n)) ∧ Below w.heap.size w w' ∧ w'.ownsRow w.heap.size 9 1 (.slice (some ⟨w.heap.size, 0, none⟩) (sumL L n) (sumL L n)) (sumL L n) (Gath S L n 0) := by
  obtain ⟨i9, hi9, hz0, hz1, hz2⟩ := info_parts Try.info9
  go_enter Try.func8, Try.ntmps8
  go_wp2
  go_loop [5, 6] (fun tn ti => ∃ (r N : Nat), r ≤ n ∧ ti = .int .i64 (r : Int) ∧ tn = .int .i64 (N : Int) ∧ N ≤ 65536 ∧ Hid (N = sumL L r)) (fun _ ti => n - (intOf ti).toNat)
  case atStart => exact ⟨0, 0, by omega, rfl, rfl, by omega, rfl⟩
  case round =>
    obtain ⟨r, N, hr, rfl, rfl, hN1, HN⟩ := hrel
    by_cases hlt : r < n
    · obtain ⟨hc, hL, hA, hS⟩ := hR r hlt
      have hb : N + L r ≤ 65536 := by
        have h1 := sumL_mono L (show r + 1 ≤ n by omega)
        have h2 := HN.out
        simp only [sumL] at h1
        omega
      have R : Hid (N + L r = sumL L (r + 1)) := show N + L r = sumL L (r + 1) by rw [HN.out]; rfl
      clear hR hA hS hL
      go_wp2
      go_round
      case rel => exact ⟨r + 1, N + L r, by omega, by go_num, by go_num, hb, R⟩
      case measure => simp [intOf]; omega
    · have hrn : r = n := by omega
      subst hrn
      have HNN := HN.out
      subst HNN
      go_wp2_with (at_make; refine wpList_make_own _ rfl _ _ 27 rfl w.heap.size 9 i9 (.string ByteArray.empty) 1 Try.underlying27 hi9 hz0 hz1 _ _ _ (sumL L r) rfl rfl rfl (by rw [hz2]; omega) (by unfold maxLen; omega) (Nat.le_refl _) ?_)
      intro w1 hown1 hgrow1
      have hb1 : Below w.heap.size w w1 := (Below.refl _ _).grown hgrow1 (Nat.le_refl _) (fun k e => by cases e)
      clear hgrow1
      go_wp2
      refine wp_loop_rounds 1 ?_
      rw [rounds_succ]
      go_wp2
      go_loopw [7, 9] (fun v i wr => ∃ q : Nat, q ≤ r ∧ i = .int .i64 (q : Int) ∧ v = .slice (some ⟨w.heap.size, 0, none⟩) (sumL L q) (sumL L r) ∧ Below w.heap.size w wr ∧ wr.ownsRow w.heap.size 9 1 (.slice (some ⟨w.heap.size, 0, none⟩) (sumL L q) (sumL L r)) (sumL L q) (Gath S L q 0)) (fun _ i _ => r - (intOf i).toNat)
      case atStart => exact ⟨0, by omega, rfl, rfl, hb1, by rw [gath_zero]; exact hown1⟩
      case round =>
        obtain ⟨q, hq, rfl, rfl, hbq, hown⟩ := hrel
        by_cases hqr : q < r
        · have hsl := sumL_mono L (show q + 1 ≤ r by omega)
          simp only [sumL] at hsl
          obtain ⟨hc, hL, hA, _⟩ := (hR.below hbq) q hqr
          unfold maxLen at hL
          clear hown1 hb1
          go_wp2
          go_loopw [7, 10] (fun v i ws => ∃ j : Nat, j ≤ L q ∧ i = .int .i64 (j : Int) ∧ v = .slice (some ⟨w.heap.size, 0, none⟩) (sumL L q + j) (sumL L r) ∧ Below w.heap.size w ws ∧ ws.ownsRow w.heap.size 9 1 (.slice (some ⟨w.heap.size, 0, none⟩) (sumL L q + j) (sumL L r)) (sumL L q + j) (Gath S L q j)) (fun _ i _ => L q - (intOf i).toNat)
          case atStart => exact ⟨0, by omega, rfl, rfl, hbq, hown⟩
          case round =>
            obtain ⟨j, hj, rfl, rfl, hbs, hown2⟩ := hrel
            clear hown hc
            obtain ⟨hc, _, _, hS⟩ := (hR.below hbs) q hqr
            by_cases hjl : j < L q
            · have hA' := hA (by omega)
              obtain ⟨hs, hsz⟩ := hS j hjl
              rw [hA'] at hc
              have hsn := gath_snoc S L q j hjl
              have HSN : Hid (Gath S L q j ++ [.string (S q j)] = Gath S L q (j + 1)) := hsn
              clear hS hA hR hsn hbq
              unfold maxLen at hsz
              go_wp2_with (at_builtin; refine wpList_append_fits _ rfl (.tmp 56) (.tmp 64) 27 rfl w.heap.size 9 i9 1 Try.underlying27 hi9 hz1 w.heap.size (sumL L q + j) (sumL L r) (Gath S L q j) rfl (hown2.alloc _) ⟨_, 0, none⟩ 1 1 [.string (S q j)] rfl rfl (cell_one_new _ _ _) (by intro u hu; simp at hu; subst hu; rfl) (by omega) ?_)
              intro w2 hown3 hgrow3
              have hb3 : Below w.heap.size w w2 := (hbs.alloc hbs.size _).grown hgrow3 (by have := hbs.size; simp; omega) (fun k e => by simp at e; omega)
              rw [HSN.out] at hown3
              clear hown2 hgrow3 hbs HSN
              go_wp2
              go_roundw
              case rel => exact ⟨j + 1, by omega, by go_num, rfl, hb3, hown3⟩
              case measure => simp [intOf]; omega
            · clear hS hA hR hbq
              have hjq : j = L q := by omega
              have R : Hid (Gath S L q j = Gath S L (q + 1) 0) := show Gath S L q j = Gath S L (q + 1) 0 by rw [hjq]; exact gath_end S L q
              have R2 : Hid (sumL L q + j = sumL L (q + 1)) := show sumL L q + j = sumL L (q + 1) by rw [hjq]; rfl
              clear hjq
              go_wp2
              rw [R.out, R2.out] at hown2
              go_roundw
              case rel => exact ⟨q + 1, by omega, by go_num, by rw [R2.out], hbs, hown2⟩
              case measure => simp [intOf]; omega
        · clear hR
          have hqr' : q = r := by omega
          subst hqr'
          go_wp2
          go_ret
          exact ⟨rfl, hbq, hown⟩

theorem flat_zero (a : Option Addr) (cap : Nat) (w : World) :
    Calls Try.prog 8 #[.slice none 0 0, .slice a 0 cap] w fun e w' =>
      e = .returned (.slice (some ⟨w.heap.size, 0, none⟩) 0 0) ∧ Below w.heap.size w w' := by
  obtain ⟨i9, hi9, hz0, hz1, hz2⟩ := info_parts Try.info9
  go_enter Try.func8, Try.ntmps8
  go_wp2
  refine wp_loop_rounds 1 ?_
  rw [rounds_succ]
  go_wp2_with (at_make; refine wpList_make_own _ rfl _ _ 27 rfl w.heap.size 9 i9 (.string ByteArray.empty) 1 Try.underlying27 hi9 hz0 hz1 _ _ _ 0 rfl rfl rfl (by rw [hz2]; omega) (by unfold maxLen; omega) (Nat.le_refl _) ?_)
  intro w1 hown1 hgrow1
  have hb1 : Below w.heap.size w w1 := (Below.refl _ _).grown hgrow1 (Nat.le_refl _) (fun k e => by cases e)
  clear hgrow1 hown1
  go_wp2
  refine wp_loop_rounds 1 ?_
  rw [rounds_succ]
  go_wp2
  refine wp_loop_rounds 1 ?_
  rw [rounds_succ]
  go_wp2
  go_ret
  exact ⟨rfl, hb1⟩
end Go.Proofs.Qxb6617287a
