import Derived.Test.Qxb6617244aRows
import Derived.Test.Qxb6617244aPlain
import Derived.WalkKit
namespace Go.Proofs.Qxb6617244a
open Go.RowKit

theorem ret_bool {a b : Bool} (h : a = b) : Ending.returned (.bool a) = .returned (.bool b) := by rw [h]

set_option maxHeartbeats 400000 in
theorem isDigit_any (c base : Int) (w : World) (h0 : 0 ≤ c) (h1 : c ≤ 255) :
    Calls Try.prog 27 #[.int .u8 c, .int .i64 base] w fun e w' => e = .returned (.bool (digB c base)) ∧ w' = w := by
  obtain ⟨d, hd, hc⟩ := or32 c h0 h1
  by_cases hdig : 48 ≤ c ∧ c ≤ 57
  · obtain ⟨ha, hb⟩ := hdig
    rw [digB_pos (Or.inl ⟨ha, hb⟩)]
    clear hd hc
    go_enter Try.func27, Try.ntmps27
    go_wp2
    go_ret
    exact ⟨ret_bool (by first | rfl | (simp; omega)), rfl⟩
  · by_cases hb16 : base = 16
    · by_cases hl : (97 ≤ c ∧ c ≤ 102) ∨ (65 ≤ c ∧ c ≤ 70)
      · rw [digB_pos (Or.inr ⟨hb16, hl⟩)]
        have e1 : 97 ≤ d := by omega
        have e2 : d ≤ 102 := by omega
        have e3 : ¬ c ≤ 57 := by omega
        have e4 : 48 ≤ c := by omega
        clear hdig hl hc
        subst hb16
        go_enter Try.func27, Try.ntmps27
        go_wp2
        go_ret
        exact ⟨ret_bool (by first | rfl | (simp; omega)), rfl⟩
      · rw [digB_neg (by omega)]
        subst hb16
        have e1 : d < 97 ∨ 102 < d := by omega
        clear hl hc
        rcases e1 with e1 | e1
        all_goals
          by_cases e4 : 48 ≤ c
          · have e3 : ¬ c ≤ 57 := by omega
            clear hdig
            go_enter Try.func27, Try.ntmps27
            go_wp2
            go_ret
            exact ⟨ret_bool (by first | rfl | (simp; omega)), rfl⟩
          · clear hdig
            go_enter Try.func27, Try.ntmps27
            go_wp2
            go_ret
            exact ⟨ret_bool (by first | rfl | (simp; omega)), rfl⟩
    · rw [digB_neg (by omega)]
      have e5 : (base == 16) = false := by simpa using hb16
      clear hc hd
      by_cases e4 : 48 ≤ c
      · have e3 : ¬ c ≤ 57 := by omega
        clear hdig
        go_enter Try.func27, Try.ntmps27
        go_wp2
        go_ret
        exact ⟨ret_bool (by first | rfl | (simp; omega)), rfl⟩
      · clear hdig
        go_enter Try.func27, Try.ntmps27
        go_wp2
        go_ret
        exact ⟨ret_bool (by first | rfl | (simp; omega)), rfl⟩

set_option maxHeartbeats 400000 in
theorem isDigitOf_any (c base : Int) (w : World) :
    Calls Try.prog 14 #[.int .u8 c, .int .i64 base] w fun e w' => e = .returned (.bool (digB c base)) ∧ w' = w := by
  by_cases hdig : 48 ≤ c ∧ c ≤ 57
  · obtain ⟨ha, hb⟩ := hdig
    rw [digB_pos (Or.inl ⟨ha, hb⟩)]
    go_enter Try.func14, Try.ntmps14
    go_wp2
    go_ret
    exact ⟨ret_bool (by first | rfl | (simp; omega)), rfl⟩
  · by_cases hb16 : base = 16
    · by_cases e4 : 48 ≤ c
      · have e3 : ¬ c ≤ 57 := by omega
        clear hdig
        by_cases e5 : 97 ≤ c
        · by_cases e6 : c ≤ 102
          · rw [digB_pos (by omega)]
            subst hb16
            go_enter Try.func14, Try.ntmps14
            go_wp2
            go_ret
            exact ⟨ret_bool (by first | rfl | (simp; omega)), rfl⟩
          · rw [digB_neg (by omega)]
            subst hb16
            go_enter Try.func14, Try.ntmps14
            go_wp2
            go_ret
            exact ⟨ret_bool (by first | rfl | (simp; omega)), rfl⟩
        · by_cases e6 : 65 ≤ c
          · by_cases e7 : c ≤ 70
            · rw [digB_pos (by omega)]
              subst hb16
              go_enter Try.func14, Try.ntmps14
              go_wp2
              go_ret
              exact ⟨ret_bool (by first | rfl | (simp; omega)), rfl⟩
            · rw [digB_neg (by omega)]
              subst hb16
              go_enter Try.func14, Try.ntmps14
              go_wp2
              go_ret
              exact ⟨ret_bool (by first | rfl | (simp; omega)), rfl⟩
          · rw [digB_neg (by omega)]
            subst hb16
            go_enter Try.func14, Try.ntmps14
            go_wp2
            go_ret
            exact ⟨ret_bool (by first | rfl | (simp; omega)), rfl⟩
      · rw [digB_neg (by omega)]
        have e5 : ¬ 97 ≤ c := by omega
        have e6 : ¬ 65 ≤ c := by omega
        clear hdig
        subst hb16
        go_enter Try.func14, Try.ntmps14
        go_wp2
        go_ret
        exact ⟨ret_bool (by first | rfl | (simp; omega)), rfl⟩
    · rw [digB_neg (by omega)]
      have e5 : (base == 16) = false := by simpa using hb16
      by_cases e4 : 48 ≤ c
      · have e3 : ¬ c ≤ 57 := by omega
        clear hdig
        go_enter Try.func14, Try.ntmps14
        go_wp2
        go_ret
        exact ⟨ret_bool (by first | rfl | (simp; omega)), rfl⟩
      · clear hdig
        go_enter Try.func14, Try.ntmps14
        go_wp2
        go_ret
        exact ⟨ret_bool (by first | rfl | (simp; omega)), rfl⟩

theorem isDec_any (c : Int) (w : World) :
    Calls Try.prog 18 #[.int .u8 c] w fun e w' => e = .returned (.bool (decB c)) ∧ w' = w := by
  by_cases ha : 48 ≤ c
  · by_cases hb : c ≤ 57
    · rw [decB_pos ⟨ha, hb⟩]
      go_enter Try.func18, Try.ntmps18
      go_wp2
      go_ret
      exact ⟨ret_bool (by first | rfl | (simp; omega)), rfl⟩
    · rw [decB_neg (by omega)]
      go_enter Try.func18, Try.ntmps18
      go_wp2
      go_ret
      exact ⟨ret_bool (by first | rfl | (simp; omega)), rfl⟩
  · rw [decB_neg (by omega)]
    go_enter Try.func18, Try.ntmps18
    go_wp2
    go_ret
    exact ⟨ret_bool (by first | rfl | (simp; omega)), rfl⟩

set_option maxHeartbeats 400000 in
theorem isWord_any (c : Int) (w : World) :
    Calls Try.prog 22 #[.int .u8 c] w fun e w' => e = .returned (.bool (wordB c)) ∧ w' = w := by
  rcases (show c < 48 ∨ (48 ≤ c ∧ c ≤ 57) ∨ (57 < c ∧ c < 65) ∨ (65 ≤ c ∧ c ≤ 90) ∨ (90 < c ∧ c < 95) ∨ c = 95 ∨ (95 < c ∧ c < 97) ∨ (97 ≤ c ∧ c ≤ 122) ∨ 122 < c by omega) with h | h | h | h | h | h | h | h | h
  · rw [wordB_neg (by omega)]
    have e1 : ¬ 48 ≤ c := by omega
    have e2 : ¬ 97 ≤ c := by omega
    have e3 : ¬ 65 ≤ c := by omega
    have e4 : (c == 95) = false := by simp; omega
    clear h
    go_enter Try.func22, Try.ntmps22
    go_wp2
    go_ret
    exact ⟨ret_bool (by first | rfl | (simp; omega)), rfl⟩
  · rw [wordB_pos (by omega)]
    obtain ⟨e1, e2⟩ := h
    go_enter Try.func22, Try.ntmps22
    go_wp2
    go_ret
    exact ⟨ret_bool (by first | rfl | (simp; omega)), rfl⟩
  · rw [wordB_neg (by omega)]
    have e1 : 48 ≤ c := by omega
    have e1' : ¬ c ≤ 57 := by omega
    have e2 : ¬ 97 ≤ c := by omega
    have e3 : ¬ 65 ≤ c := by omega
    have e4 : (c == 95) = false := by simp; omega
    clear h
    go_enter Try.func22, Try.ntmps22
    go_wp2
    go_ret
    exact ⟨ret_bool (by first | rfl | (simp; omega)), rfl⟩
  · rw [wordB_pos (by omega)]
    have e1 : 48 ≤ c := by omega
    have e1' : ¬ c ≤ 57 := by omega
    have e2 : ¬ 97 ≤ c := by omega
    obtain ⟨e3, e4⟩ := h
    go_enter Try.func22, Try.ntmps22
    go_wp2
    go_ret
    exact ⟨ret_bool (by first | rfl | (simp; omega)), rfl⟩
  · rw [wordB_neg (by omega)]
    have e1 : 48 ≤ c := by omega
    have e1' : ¬ c ≤ 57 := by omega
    have e2 : ¬ 97 ≤ c := by omega
    have e3 : 65 ≤ c := by omega
    have e3' : ¬ c ≤ 90 := by omega
    have e4 : (c == 95) = false := by simp; omega
    clear h
    go_enter Try.func22, Try.ntmps22
    go_wp2
    go_ret
    exact ⟨ret_bool (by first | rfl | (simp; omega)), rfl⟩
  · subst h
    rw [wordB_pos (by omega)]
    go_enter Try.func22, Try.ntmps22
    go_wp2
    go_ret
    exact ⟨ret_bool (by first | rfl | (simp; omega)), rfl⟩
  · rw [wordB_neg (by omega)]
    have e1 : 48 ≤ c := by omega
    have e1' : ¬ c ≤ 57 := by omega
    have e2 : ¬ 97 ≤ c := by omega
    have e3 : 65 ≤ c := by omega
    have e3' : ¬ c ≤ 90 := by omega
    have e4 : (c == 95) = false := by simp; omega
    clear h
    go_enter Try.func22, Try.ntmps22
    go_wp2
    go_ret
    exact ⟨ret_bool (by first | rfl | (simp; omega)), rfl⟩
  · rw [wordB_pos (by omega)]
    have e1 : 48 ≤ c := by omega
    have e1' : ¬ c ≤ 57 := by omega
    obtain ⟨e3, e4⟩ := h
    go_enter Try.func22, Try.ntmps22
    go_wp2
    go_ret
    exact ⟨ret_bool (by first | rfl | (simp; omega)), rfl⟩
  · rw [wordB_neg (by omega)]
    have e1 : 48 ≤ c := by omega
    have e1' : ¬ c ≤ 57 := by omega
    have e2 : 97 ≤ c := by omega
    have e2' : ¬ c ≤ 122 := by omega
    have e3 : 65 ≤ c := by omega
    have e3' : ¬ c ≤ 90 := by omega
    have e4 : (c == 95) = false := by simp; omega
    clear h
    go_enter Try.func22, Try.ntmps22
    go_wp2
    go_ret
    exact ⟨ret_bool (by first | rfl | (simp; omega)), rfl⟩
end Go.Proofs.Qxb6617244a
