import Derived.Test.Qxb6617287aNext
import Derived.Test.Qxb6617287aDrain
import Derived.WalkSmall
namespace Go.Proofs.Qxb6617287a
open Go.RowKit

theorem flat_at (T : Nat → Nat → ByteArray) (ln : Nat → Nat) (m r j : Nat) (hr : r < m) (hj : j < ln r) : (flatL T ln m)[sumL ln r + j]? = some (T r j) := by
  induction m with
  | zero => omega
  | succ m ih =>
    simp only [flatL]
    by_cases e : r = m
    · subst e
      rw [List.getElem?_append_right (by rw [length_flatL]; omega), length_flatL]
      have : sumL ln r + j - sumL ln r = j := by omega
      rw [this]
      unfold rowL
      rw [List.getElem?_map, List.getElem?_range hj]
      rfl
    · rw [List.getElem?_append_left (by
        rw [length_flatL]
        have := sumL_mono ln (show r + 1 ≤ m by omega)
        simp only [sumL] at this
        omega)]
      exact ih (by omega)

/-- What next answers and leaves, wherever the head stands. -/
def NextE (w : World) (h bo mcap m : Nat) (G K ln : Nat → Nat) (r j : Nat) (e : Ending) (w' : World) : Prop :=
  e = .returned (.bool (decide (sumL ln r + j + 1 < sumL ln m))) ∧ Below h w w' ∧
    (sumL ln r + j + 1 < sumL ln m → ∃ r' j', r' < m ∧ j' < ln r' ∧ sumL ln r' + j' = sumL ln r + j + 1 ∧ MH w' h bo mcap m G K ln r' j')

theorem next_any (h bo mcap m r j : Nat) (G K ln : Nat → Nat) (w : World) (hr : r < m) (hj : j < ln r) (hpos : ∀ q, q < m → 0 < ln q) (hK : ln r ≤ K r) (hout : Row w 27 bo m mcap (runV G ln K)) (hm : MH w h bo mcap m G K ln r j) :
    Calls Try.prog 21 #[.pointer (some ⟨h, 0, none⟩)] w fun e w' => NextE w h bo mcap m G K ln r j e w' := by
  have hs1 := sumL_mono ln (show r + 1 ≤ m by omega)
  simp only [sumL] at hs1
  by_cases c1 : j + 1 < ln r
  · refine (next_in h bo mcap m r j G K ln w c1 hK hm).mono ?_
    rintro e w' ⟨rfl, hb, hm'⟩
    exact ⟨by rw [decide_eq_true (by omega)], hb, fun _ => ⟨r, j + 1, hr, c1, by omega, hm'⟩⟩
  · have e1 : j + 1 = ln r := by omega
    by_cases c2 : r + 1 < m
    · refine (next_move h bo mcap m r j G K ln w e1 c2 hout.fits hout hm).mono ?_
      rintro e w' ⟨rfl, hb, hm'⟩
      have hs2 := sumL_mono ln (show r + 1 + 1 ≤ m by omega)
      simp only [sumL] at hs2
      have hp := hpos (r + 1) c2
      exact ⟨by rw [decide_eq_true (by omega)], hb, fun _ => ⟨r + 1, 0, c2, hp, by simp only [sumL]; omega, hm'⟩⟩
    · have e2 : r + 1 = m := by omega
      refine (next_end h bo mcap m r j G K ln w e1 e2 hm).mono ?_
      rintro e w' ⟨rfl, hb⟩
      have e3 : sumL ln m = sumL ln r + ln r := by rw [← e2]; rfl
      exact ⟨by rw [decide_eq_false (by omega)], hb, fun hlt => by omega⟩

theorem zzNext_any (h bo mcap m r j : Nat) (G K ln : Nat → Nat) (w : World) (hr : r < m) (hj : j < ln r) (hpos : ∀ q, q < m → 0 < ln q) (hK : ln r ≤ K r) (hout : Row w 27 bo m mcap (runV G ln K)) (hm : MH w h bo mcap m G K ln r j) :
    Calls Try.prog 18 #[.pointer (some ⟨h, 0, none⟩)] w fun e w' => NextE w h bo mcap m G K ln r j e w' := by
  go_enter Try.func18, Try.ntmps18
  go_wp2_with fail
  refine (next_any h bo mcap m r j G K ln w hr hj hpos hK hout hm).mono ?_
  rintro e w1 ⟨rfl, hb, hn⟩
  have HN : Hid (sumL ln r + j + 1 < sumL ln m → ∃ r' j', r' < m ∧ j' < ln r' ∧ sumL ln r' + j' = sumL ln r + j + 1 ∧ MH w1 h bo mcap m G K ln r' j') := hn
  clear hn
  go_wp2
  go_ret
  exact ⟨ret_bool rfl, hb, HN.out⟩

theorem zzNext_k (h bo mcap m r j k N : Nat) (G K ln : Nat → Nat) (w : World) (hr : r < m) (hj : j < ln r) (hpos : ∀ q, q < m → 0 < ln q) (hK : ln r ≤ K r) (hout : Row w 27 bo m mcap (runV G ln K)) (hm : MH w h bo mcap m G K ln r j) (hk : sumL ln r + j = k) (hN : N = sumL ln m) :
    Calls Try.prog 18 #[.pointer (some ⟨h, 0, none⟩)] w fun e w' => e = .returned (.bool (decide (k + 1 < N))) ∧ Below h w w' ∧ (k + 1 < N → ∃ r' j', r' < m ∧ j' < ln r' ∧ sumL ln r' + j' = k + 1 ∧ MH w' h bo mcap m G K ln r' j') := by
  subst hk hN
  exact zzNext_any h bo mcap m r j G K ln w hr hj hpos hK hout hm

theorem head_new (w : World) (bo mcap m : Nat) (G K ln : Nat → Nat) (ra : Option Addr) (hra : 1 < m → ra = some ⟨bo, 1, none⟩) :
    MH (w.alloc (.cells #[.slice (some ⟨G 0, 0, none⟩) (ln 0) (K 0), .slice ra (m - 1) (mcap - 1)] 47)) w.heap.size bo mcap m G K ln 0 0 :=
  ⟨ra, fun h => hra (by omega), [_, _], heap_alloc_new w _, rfl, Nat.le_refl _, fun q hq => by
    unfold headV
    by_cases c : q = 0
    · subst c; rfl
    · have : q = 1 := by omega
      subst this; rfl⟩

set_option maxRecDepth 100000 in
set_option maxHeartbeats 2000000 in
theorem reads_any (base bo mcap m : Nat) (G K ln : Nat → Nat) (T : Nat → Nat → ByteArray) (ra : Option Addr) (gw cw : Nat) (w : World) (hm : 0 < m) (hpos : ∀ q, q < m → 0 < ln q) (hrs : Rs w base bo mcap m G K ln T) (hra : 1 < m → ra = some ⟨bo, 1, none⟩)
    (hcw : cw ≤ 100000) (hNc : sumL ln m ≤ cw) (hall : AllC w gw (flatL T ln m)) :
    Calls Try.prog 14 #[.slice (some ⟨G 0, 0, none⟩) (ln 0) (K 0), .slice ra (m - 1) (mcap - 1), .slice (some ⟨gw, 0, none⟩) (sumL ln m) cw] w fun e w' => e = .returned (.bool true) ∧ Below w.heap.size w w' := by
  have hp0 := hpos 0 hm
  have hN0 : 0 < sumL ln m := by
    have := sumL_mono ln (show 1 ≤ m from hm)
    simp only [sumL] at this
    omega
  have hgw : gw < w.heap.size := by
    have := hall 0 _ (flat_at T ln m 0 0 hm hp0)
    exact World.block_lt_of_cell? _ _ this
  go_enter Try.func14, Try.ntmps14
  go_wp2_with fail
  refine (newHead_any _ _ _ _ _ _ w).mono ?_
  rintro e w1 ⟨rfl, hw1⟩
  have hmh : MH w1 w.heap.size bo mcap m G K ln 0 0 := by rw [hw1]; exact head_new w bo mcap m G K ln ra hra
  have hb1 : Below w.heap.size w w1 := by rw [hw1]; exact (Below.refl _ _).alloc (Nat.le_refl _) _
  clear hw1
  obtain ⟨N, hN⟩ : ∃ N, N = sumL ln m := ⟨_, rfl⟩
  rw [← hN] at hNc hN0 ⊢
  have HN : Hid (N = sumL ln m) := hN
  clear hN
  have HP : Hid (∀ q, q < m → 0 < ln q) := hpos
  clear hpos
  go_wp2
  go_loopw [8] (fun tk wr => ∃ k : Nat, k ≤ N ∧ tk = .int .i64 (k : Int) ∧ Below w.heap.size w wr ∧ (k < N → ∃ r j, r < m ∧ j < ln r ∧ sumL ln r + j = k ∧ MH wr w.heap.size bo mcap m G K ln r j)) (fun tk _ => N - (intOf tk).toNat)
  case atStart => exact ⟨0, by omega, rfl, hb1, fun _ => ⟨0, 0, hm, hp0, rfl, hmh⟩⟩
  case round =>
    clear hmh hb1
    obtain ⟨k, hk, rfl, hbr, hnx⟩ := hrel
    by_cases hlt : k < N
    · obtain ⟨r, j, hr, hj, hsum, hmh⟩ := hnx hlt
      clear hnx
      have hX := flat_at T ln m r j hr hj
      rw [hsum] at hX
      have hca := (hall.below hgw hbr) k _ hX
      have hcs : wr.cell? ⟨G r, j, none⟩ = some (.string (T r j)) := ((hrs.below hbr).inner r hr).2.cell hj
      have hcr : wr.cell? ⟨w.heap.size, 0, none⟩ = some (.slice (some ⟨G r, j, none⟩) (ln r - j) (K r - j)) := by
        obtain ⟨ra', _, hrow⟩ := hmh
        exact hrow.cell (j := 0) (by omega)
      have hlK := (hrs.inner r hr).2.fits
      have hl0 : (((ln r - j : Nat) : Int) == 0) = false := by simp; omega
      have hl1 : (0 : Int) < ((ln r - j : Nat) : Int) := by omega
      have hki : (k : Int) < (N : Int) := by omega
      have HS : Hid (sumL ln r + j = k) := hsum
      clear hX hsum
      go_wp2_with (go_at_call 17; refine (headRun_any _ _ _ hcr).mono ?_; rintro e w' ⟨rfl, rfl⟩)
      go_quiet (fail)
      go_wp2_with fail
      refine (zzNext_k w.heap.size bo mcap m r j k N G K ln _ hr hj HP.out hlK ((hrs.below hbr).outer.below (below_drewN (Below.refl _ _) _)) hmh HS.out HN.out).mono ?_
      rintro e w5 ⟨rfl, hb5, hnx⟩
      have hbr' := (below_drewN hbr _).trans hb5
      clear hmh hca hcs hcr hbr hb5 hl0 hl1 hrs hall
      by_cases hk1 : k + 1 < N
      · have hkd : decide (k + 1 < N) = true := by simpa using hk1
        have hki1 : (k : Int) + 1 < (N : Int) := by omega
        go_wp2
        go_roundw
        case rel => exact ⟨k + 1, by omega, by go_num, hbr', hnx⟩
        case measure => simp [intOf]; omega
      · have hkd : decide (k + 1 < N) = false := by simpa using hk1
        have hki1 : ¬ (k : Int) + 1 < (N : Int) := by omega
        go_wp2
        go_roundw
        case rel => exact ⟨k + 1, by omega, by go_num, hbr', hnx⟩
        case measure => simp [intOf]; omega
    · clear hnx
      go_wp2
      go_ret
      exact ⟨ret_bool (by first | (simp; done) | (simp; omega)), hbr⟩
end Go.Proofs.Qxb6617287a
