import Derived.Test.Qxb6617244aLeaf
namespace Go.Proofs.Qxb6617244a
open Go.RowKit

/-- What nanEnd answers at i. -/
def NanR (g : Nat → Int) (len i r : Nat) : Prop :=
  (r = i ∧ (len ≤ i ∨ g i ≠ 40 ∨ ∃ j, i < j ∧ j ≤ len ∧ (∀ k, i < k → k < j → wordB (g k) = true) ∧ (j = len ∨ (wordB (g j) = false ∧ g j ≠ 41)))) ∨
  (i < len ∧ g i = 40 ∧ ∃ j, i < j ∧ j < len ∧ (∀ k, i < k → k < j → wordB (g k) = true) ∧ g j = 41 ∧ r = j + 1)

theorem ret_int {k : IntKind} {a b : Int} (h : a = b) : Ending.returned (.int k a) = .returned (.int k b) := by rw [h]

theorem nanEnd_ge (a : Option Addr) (len cap : Nat) (i : Int) (w : World) (hi : (len : Int) ≤ i) :
    Calls Try.prog 26 #[.slice a len cap, .int .i64 i] w fun e w' => e = .returned (.int .i64 i) ∧ w' = w := by
  go_enter Try.func26, Try.ntmps26
  go_wp2
  go_ret
  exact ⟨rfl, rfl⟩

set_option maxHeartbeats 1000000 in
theorem nanEnd_lt (b off len cap : Nat) (g : Nat → Int) (i : Nat) (w : World) (hlen : len ≤ 1000000000000) (hi : i < len) (hg : ∀ k, 0 ≤ g k ∧ g k ≤ 255)
    (hc : ∀ k, k < len → w.cell? ⟨b, off + k, none⟩ = some (.int .u8 (g k))) :
    Calls Try.prog 26 #[.slice (some ⟨b, off, none⟩) len cap, .int .i64 i] w fun e w' => (∃ r : Nat, e = .returned (.int .i64 r) ∧ NanR g len i r) ∧ w' = w := by
  have hci := hc i hi
  have hd : decide (len ≤ i) = false := by simp; omega
  by_cases h40 : g i = 40
  · rw [h40] at hci
    go_enter Try.func26, Try.ntmps26
    go_wp2
    go_loop [5] (fun t => ∃ j : Nat, i < j ∧ j ≤ len ∧ t = .int .i64 j ∧ ∀ k, i < k → k < j → wordB (g k) = true) (fun t => len - (intOf t).toNat)
    case atStart => exact ⟨i + 1, by omega, by omega, by go_num, fun k h1 h2 => by omega⟩
    case round =>
      obtain ⟨j, hij, hj, rfl, hall⟩ := hrel
      have h40' := h40
      clear hci hd h40
      by_cases hlt : j < len
      · have hcj := hc j hlt
        obtain ⟨g0, g1⟩ := hg j
        obtain ⟨d, hd, hdc⟩ := or32 (g j) g0 g1
        have hcl : (wordB (g j) = true ∧ digB (g j) 16 = true) ∨ (wordB (g j) = true ∧ digB (g j) 16 = false ∧ 97 ≤ d ∧ d ≤ 122) ∨ (wordB (g j) = true ∧ digB (g j) 16 = false ∧ (d < 97 ∨ 122 < d) ∧ g j = 95) ∨ (wordB (g j) = false ∧ digB (g j) 16 = false ∧ (d < 97 ∨ 122 < d) ∧ g j ≠ 95) := by
          by_cases hw : wordB (g j) = true
          · by_cases hdg : digB (g j) 16 = true
            · exact Or.inl ⟨hw, hdg⟩
            · have h1 := wordB_iff.1 hw
              have h2 := mt digB_iff.2 hdg
              simp only [Bool.not_eq_true] at hdg
              by_cases h95 : g j = 95
              · exact Or.inr (Or.inr (Or.inl ⟨hw, hdg, by omega, h95⟩))
              · exact Or.inr (Or.inl ⟨hw, hdg, by omega, by omega⟩)
          · have h1 := mt wordB_iff.2 hw
            simp only [Bool.not_eq_true] at hw
            exact Or.inr (Or.inr (Or.inr ⟨hw, digB_neg (by omega), by omega, by omega⟩))
        have hnext : wordB (g j) = true → ∀ k, i < k → k < j + 1 → wordB (g k) = true := fun hw k h1 h2 => by
          by_cases e : k = j
          · rw [e]; exact hw
          · exact hall k h1 (by omega)
        have HC := hc
        clear hc hg hdc
        rcases hcl with ⟨hw, hdg⟩ | ⟨hw, hdg, hd1, hd2⟩ | ⟨hw, hdg, hd1, h95⟩ | ⟨hw, hdg, hd1, h95⟩
        · have R := hnext hw
          clear hall hnext hw HC
          go_wp2_with (go_at_call 27; refine (isDigit_any _ _ _ (by assumption) (by assumption)).mono ?_; rintro e w' ⟨rfl, rfl⟩)
          go_round
          case rel => exact ⟨j + 1, by omega, by omega, by go_num, R⟩
          case measure => simp [intOf]; omega
        · have R := hnext hw
          clear hall hnext hw HC
          go_wp2_with (go_at_call 27; refine (isDigit_any _ _ _ (by assumption) (by assumption)).mono ?_; rintro e w' ⟨rfl, rfl⟩)
          go_round
          case rel => exact ⟨j + 1, by omega, by omega, by go_num, R⟩
          case measure => simp [intOf]; omega
        · have R := hnext hw
          clear hall hnext hw HC
          have h95' : (g j == 95) = true := by simpa using h95
          clear h95
          rcases hd1 with hd1 | hd1
          · have hd2 : ¬ 97 ≤ d := by omega
            go_wp2_with (go_at_call 27; refine (isDigit_any _ _ _ (by assumption) (by assumption)).mono ?_; rintro e w' ⟨rfl, rfl⟩)
            go_round
            case rel => exact ⟨j + 1, by omega, by omega, by go_num, R⟩
            case measure => simp [intOf]; omega
          · have hd2 : 97 ≤ d := by omega
            have hd3 : ¬ d ≤ 122 := by omega
            go_wp2_with (go_at_call 27; refine (isDigit_any _ _ _ (by assumption) (by assumption)).mono ?_; rintro e w' ⟨rfl, rfl⟩)
            go_round
            case rel => exact ⟨j + 1, by omega, by omega, by go_num, R⟩
            case measure => simp [intOf]; omega
        · have h95' : (g j == 95) = false := by simpa using h95
          clear h95 hnext HC
          have HW : Hid (wordB (g j) = false) := hw
          clear hw
          have HA : Hid (∀ k, i < k → k < j → wordB (g k) = true) := hall
          clear hall
          have H4 : Hid (g i = 40) := h40'
          clear h40'
          by_cases h41 : g j = 41
          · have h41' : (g j == 41) = true := by simpa using h41
            have H41 : Hid (g j = 41) := h41
            clear h41
            rcases hd1 with hd1 | hd1
            · have hd2 : ¬ 97 ≤ d := by omega
              go_wp2_with (go_at_call 27; refine (isDigit_any _ _ _ (by assumption) (by assumption)).mono ?_; rintro e w' ⟨rfl, rfl⟩)
              go_ret
              exact ⟨⟨j + 1, ret_int (by omega), Or.inr ⟨hi, H4.out, j, hij, hlt, HA.out, H41.out, rfl⟩⟩, rfl⟩
            · have hd2 : 97 ≤ d := by omega
              have hd3 : ¬ d ≤ 122 := by omega
              go_wp2_with (go_at_call 27; refine (isDigit_any _ _ _ (by assumption) (by assumption)).mono ?_; rintro e w' ⟨rfl, rfl⟩)
              go_ret
              exact ⟨⟨j + 1, ret_int (by omega), Or.inr ⟨hi, H4.out, j, hij, hlt, HA.out, H41.out, rfl⟩⟩, rfl⟩
          · have h41' : (g j == 41) = false := by simpa using h41
            rcases hd1 with hd1 | hd1
            · have hd2 : ¬ 97 ≤ d := by omega
              go_wp2_with (go_at_call 27; refine (isDigit_any _ _ _ (by assumption) (by assumption)).mono ?_; rintro e w' ⟨rfl, rfl⟩)
              go_ret
              exact ⟨⟨i, rfl, Or.inl ⟨rfl, Or.inr (Or.inr ⟨j, hij, hj, HA.out, Or.inr ⟨HW.out, h41⟩⟩)⟩⟩, rfl⟩
            · have hd2 : 97 ≤ d := by omega
              have hd3 : ¬ d ≤ 122 := by omega
              go_wp2_with (go_at_call 27; refine (isDigit_any _ _ _ (by assumption) (by assumption)).mono ?_; rintro e w' ⟨rfl, rfl⟩)
              go_ret
              exact ⟨⟨i, rfl, Or.inl ⟨rfl, Or.inr (Or.inr ⟨j, hij, hj, HA.out, Or.inr ⟨HW.out, h41⟩⟩)⟩⟩, rfl⟩
      · have hjl : j = len := by omega
        have HA : Hid (∀ k, i < k → k < j → wordB (g k) = true) := hall
        clear hall hc hg
        have HJ : Hid (j = len) := hjl
        clear hjl
        go_wp2
        go_ret
        exact ⟨⟨i, rfl, Or.inl ⟨rfl, Or.inr (Or.inr ⟨j, hij, hj, HA.out, Or.inl HJ.out⟩)⟩⟩, rfl⟩
  · have hne : (g i != 40) = true := by simpa using h40
    go_enter Try.func26, Try.ntmps26
    go_wp2
    go_ret
    exact ⟨⟨i, rfl, Or.inl ⟨rfl, Or.inr (Or.inl h40)⟩⟩, rfl⟩
end Go.Proofs.Qxb6617244a
