import Derived.Test.Qxb6617244aParts
import Derived.Outline
namespace Go.Proofs.Qxb6617244a
open Go.RowKit

theorem law7_big (a : Option Addr) (len cap : Nat) (i : Int) (w : World) (h : 1048576 < len) (hm : len ≤ maxLen) :
    Calls Try.prog 7 #[.slice a len cap, .int .i64 i] w fun e w' => e = .returned (.bool true) ∧ Below w.heap.size w w' := by
  unfold maxLen at hm
  have h' : (1048576 : Int) < (len : Int) := by omega
  go_enter Try.func7, Try.ntmps7
  go_wp2
  go_ret
  exact ⟨rfl, Below.refl _ _⟩

theorem law7_neg (a : Option Addr) (len cap : Nat) (i : Int) (w : World) (h : len ≤ 1048576) (hi : i < 0) :
    Calls Try.prog 7 #[.slice a len cap, .int .i64 i] w fun e w' => e = .returned (.bool true) ∧ Below w.heap.size w w' := by
  have h' : ¬ (1048576 : Int) < (len : Int) := by omega
  go_enter Try.func7, Try.ntmps7
  go_wp2
  go_ret
  exact ⟨rfl, Below.refl _ _⟩

theorem law7_nil (i : Int) (w : World) (hi : 0 ≤ i) :
    Calls Try.prog 7 #[.slice none 0 0, .int .i64 i] w fun e w' => e = .returned (.bool true) ∧ Below w.heap.size w w' := by
  have hnn := neq_nil_none
  go_enter Try.func7, Try.ntmps7
  go_wp2_with (first | (go_at_call 21; refine (zznan_ge _ _ _ _ _ (by simpa using hi)).mono ?_; rintro e w' ⟨rfl, rfl⟩) | go_in)
  go_ret
  exact ⟨ret_bool (by simp), Below.refl _ _⟩

/-- While nothing but word bytes was passed, no ')' is met where nanEnd answered 'none'. -/
theorem nan_step {g : Nat → Int} {len i j k : Nat} (hall : ∀ m, i < m → m < j → wordB (g m) = true) (hj : j = len ∨ (wordB (g j) = false ∧ g j ≠ 41)) (hij : i < j)
    (hik : i < k) (hk : k < len) (hcl : ∀ m, i < m → m < k → wordB (g m) = true) : g k ≠ 41 := by
  intro h41
  have hw41 : wordB (g k) = false := by rw [h41]; rfl
  by_cases h1 : k < j
  · rw [hall k hik h1] at hw41; cases hw41
  · rcases hj with hj | ⟨hj1, hj2⟩
    · omega
    · by_cases h2 : k = j
      · subst h2; exact hj2 h41
      · rw [hcl j hij (by omega)] at hj1; cases hj1

set_option maxHeartbeats 1000000 in
theorem law7_some (x : Addr) (len cap : Nat) (g : Nat → Int) (i : Int) (w : World) (h : len ≤ 1048576) (hi : 0 ≤ i) (hg : ∀ k, 0 ≤ g k ∧ g k ≤ 255)
    (hc : ∀ k, k < len → w.cell? (x.add k) = some (.int .u8 (g k))) :
    Calls Try.prog 7 #[.slice (some x) len cap, .int .i64 i] w fun e w' => e = .returned (.bool true) ∧ Below w.heap.size w w' := by
  have hnn := neq_nil_some x len cap
  obtain ⟨i0, hi0, hz0, hz1, hz2⟩ := info_parts Try.info5
  have h' : ¬ (1048576 : Int) < (len : Int) := by omega
  by_cases hge : (len : Int) ≤ i
  · go_enter Try.func7, Try.ntmps7
    go_wp2_with (first | (at_make; refine wpList_make_full _ rfl _ _ 22 rfl w.heap.size 5 i0 (.int .u8 0) 1 Try.underlying22 hi0 hz0 hz1 _ _ _ _ len rfl rfl rfl rfl (by rw [hz2]; omega) (by unfold maxLen; omega) (Nat.le_refl _) ?_) | go_in)
    intro w1 hown hgrow
    have hb1 : Below w.heap.size w w1 := (Below.refl _ _).grown hgrow (Nat.le_refl _) (fun k e => by cases e)
    obtain ⟨w2, hcp, hb2, hsz2, hc2⟩ := copy_made w.heap.size w1 _ x len cap g hown (fun k hk => hgrow.cell (hc k hk) (by simp))
    clear hown hgrow hc
    go_wp2_with (first | (go_at_call 21; refine (zznan_ge _ _ _ _ _ hge).mono ?_; rintro e w' ⟨rfl, rfl⟩))
    go_ret
    exact ⟨ret_bool (by simp), hb1.trans hb2⟩
  · obtain ⟨n, rfl⟩ : ∃ n : Nat, i = (n : Int) := ⟨i.toNat, by omega⟩
    have hn : n < len := by omega
    have hd0 : decide (len ≤ n) = false := by simp; omega
    clear hge hi
    go_enter Try.func7, Try.ntmps7
    go_wp2_with (first | (at_make; refine wpList_make_full _ rfl _ _ 22 rfl w.heap.size 5 i0 (.int .u8 0) 1 Try.underlying22 hi0 hz0 hz1 _ _ _ _ len rfl rfl rfl rfl (by rw [hz2]; omega) (by unfold maxLen; omega) (Nat.le_refl _) ?_) | go_in)
    intro w1 hown hgrow
    have hb1 : Below w.heap.size w w1 := (Below.refl _ _).grown hgrow (Nat.le_refl _) (fun k e => by cases e)
    obtain ⟨w2, hcp, hb2, hsz2, hc2⟩ := copy_made w.heap.size w1 _ x len cap g hown (fun k hk => hgrow.cell (hc k hk) (by simp))
    have hb := hb1.trans hb2
    clear hown hgrow hc hsz2 hb1 hb2
    go_wp2_with fail
    refine (zznan_lt w.heap.size 0 len len g n w2 (by omega) hn hg (fun k hk => by simpa using hc2 k hk)).mono ?_
    rintro e w' ⟨⟨r, rfl, hr⟩, rfl⟩
    clear hcp hnn
    have hcn := hc2 n hn
    rcases hr with ⟨rfl, hr⟩ | ⟨_, h40, j, hnj, hjl, hall, h41, rfl⟩
    · rcases hr with hr | hr | ⟨j, hnj, hjl, hall, hend⟩
      · omega
      · have h40 : (g r != 40) = true := by simpa using hr
        clear hr
        go_wp2
        go_ret
        exact ⟨rfl, hb⟩
      · have HA : Hid (∀ m, r < m → m < j → wordB (g m) = true) := hall
        have HE : Hid (j = len ∨ (wordB (g j) = false ∧ g j ≠ 41)) := hend
        clear hall hend
        by_cases h40 : g r = 40
        · have h40' : (g r != 40) = false := by simpa using h40
          clear h40
          go_wp2
          go_loop [8, 9] (fun bl t => ∃ (k : Nat) (q : Bool), r < k ∧ k ≤ len ∧ t = .int .i64 k ∧ bl = .bool q ∧ (q = false → ∀ m, r < m → m < k → wordB (g m) = true)) (fun _ t => len - (intOf t).toNat)
          case atStart => exact ⟨r + 1, false, by omega, by omega, by go_num, rfl, fun _ m h1 h2 => by omega⟩
          case round =>
            obtain ⟨k, q, hrk, hkl, rfl, rfl, hq⟩ := hrel
            by_cases hlt : k < len
            · have hck := hc2 k hlt
              clear hc2 hcn
              cases q with
              | true =>
                clear hq
                go_wp2_with (go_at_call 22; refine (isWord_any _ _).mono ?_; rintro e w' ⟨rfl, rfl⟩)
                all_goals
                  go_round
                  case rel => exact ⟨k + 1, true, by omega, by omega, by go_num, rfl, fun h => by cases h⟩
                  case measure => simp [intOf]; omega
              | false =>
                have h41 : (g k == 41) = false := by simpa using nan_step HA.out HE.out hnj hrk hlt (hq rfl)
                have hq' := hq rfl
                clear hq
                have HQ : Hid (∀ m, r < m → m < k → wordB (g m) = true) := hq'
                clear hq'
                by_cases hw : wordB (g k) = true
                · go_wp2_with (go_at_call 22; refine (isWord_any _ _).mono ?_; rintro e w' ⟨rfl, rfl⟩)
                  go_round
                  case rel => exact ⟨k + 1, false, by omega, by omega, by go_num, rfl, fun _ m h1 h2 => by
                                by_cases e : m = k
                                · rw [e]; exact hw
                                · exact HQ.out m h1 (by omega)⟩
                  case measure => simp [intOf]; omega
                · have hw' : wordB (g k) = false := by simpa using hw
                  clear hw
                  go_wp2_with (go_at_call 22; refine (isWord_any _ _).mono ?_; rintro e w' ⟨rfl, rfl⟩)
                  go_round
                  case rel => exact ⟨k + 1, true, by omega, by omega, by go_num, rfl, fun h => by cases h⟩
                  case measure => simp [intOf]; omega
            · clear hc2 hcn hq
              go_wp2
              go_ret
              exact ⟨rfl, hb⟩
        · have h40' : (g r != 40) = true := by simpa using h40
          clear h40
          go_wp2
          go_ret
          exact ⟨rfl, hb⟩
    · have h40' : (g n != 40) = false := by simpa using h40
      have h41' : (g j != 41) = false := by simpa using h41
      have hcj := hc2 j hjl
      have HA : Hid (∀ m, n < m → m < j → wordB (g m) = true) := hall
      clear hall h40 h41
      have hne : ((j : Int) + 1 != (n : Int)) = true := by simp; omega
      go_wp2
      go_loop [7] (fun t => ∃ k : Nat, n < k ∧ k ≤ j ∧ t = .int .i64 k) (fun t => len - (intOf t).toNat)
      case atStart => exact ⟨n + 1, by omega, by omega, by go_num⟩
      case round =>
        obtain ⟨k, hnk, hkj, rfl⟩ := hrel
        by_cases hlt : k < j
        · have hck := hc2 k (by omega)
          have hw := HA.out k hnk hlt
          clear hc2 hcn
          go_wp2_with (go_at_call 22; refine (isWord_any _ _).mono ?_; rintro e w' ⟨rfl, rfl⟩)
          go_round
          case rel => exact ⟨k + 1, by omega, by omega, by go_num⟩
          case measure => simp [intOf]; omega
        · clear hc2 hcn
          go_wp2
          go_ret
          exact ⟨rfl, hb⟩
end Go.Proofs.Qxb6617244a
