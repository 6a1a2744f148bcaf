import Derived.Test.Qxb6617244aParts
import Derived.Test.Qxb6617244aExpPlain
namespace Go.Proofs.Qxb6617244a
open Go.RowKit

theorem exp_loop {g : Nat → Int} {m : Int} {len i s j : Nat} (hm : IsMark (g i) m) (hs : StartS g len i s) (hd : s < len ∧ decB (g s) = true) (hall : ∀ k, s ≤ k → k < j → decB (g k) = true) (hsj : s ≤ j) (hjl : j ≤ len)
    (he : j = len ∨ decB (g j) = false) : ExpR g m len i j := by
  refine Or.inr ⟨hm, s, hs, ?_, hjl, hall, he⟩
  apply Classical.byContradiction
  intro hn
  have e : j = s := by omega
  subst e
  rcases he with he | he
  · omega
  · rw [hd.2] at he; cases he

theorem exp_ge (a : Option Addr) (len cap : Nat) (i m : Int) (w : World) (hi : (len : Int) ≤ i) :
    Calls Try.prog 25 #[.slice a len cap, .int .i64 i, .int .u8 m] w fun e w' => e = .returned (.int .i64 i) ∧ w' = w := by
  go_enter Try.func25, Try.ntmps25
  go_wp2
  go_ret
  exact ⟨rfl, rfl⟩

set_option maxHeartbeats 2000000 in
theorem exp_lt (b off len cap : Nat) (g : Nat → Int) (i : Nat) (m : Int) (w : World) (hlen : len ≤ 1000000000000) (hi : i < len) (hg : ∀ k, 0 ≤ g k ∧ g k ≤ 255) (h97 : 97 ≤ m) (h122 : m ≤ 122)
    (hc : ∀ k, k < len → w.cell? ⟨b, off + k, none⟩ = some (.int .u8 (g k))) :
    Calls Try.prog 25 #[.slice (some ⟨b, off, none⟩) len cap, .int .i64 i, .int .u8 m] w fun e w' => (∃ r : Nat, e = .returned (.int .i64 (r : Int)) ∧ ExpR g m len i r) ∧ w' = w := by
  have hci := hc i hi
  have hd0 : decide (len ≤ i) = false := by simp; omega
  obtain ⟨g0, g1⟩ := hg i
  obtain ⟨d, hd, hdc⟩ := or32 (g i) g0 g1
  have hmk := mark_iff h97 h122 hdc
  clear hdc h97 h122
  by_cases hdm : d = m
  · have HM : Hid (IsMark (g i) m) := hmk.1 hdm
    have hdm' : (d != m) = false := by simpa using hdm
    clear hmk hdm
    by_cases hl1 : i + 1 < len
    · have hc1 := hc (i + 1) hl1
      by_cases h43 : g (i + 1) = 43
      · have hsg : Sgn (g (i + 1)) := Or.inl h43
        have h43' : (g (i + 1) == 43) = true := by simpa using h43
        clear h43
        go_enter Try.func25, Try.ntmps25
        have HS : Hid (StartS g len i (i + 2)) := show StartS g len i (i + 2) from Or.inr ⟨rfl, hl1, hsg⟩
        clear hsg
        by_cases hls : i + 2 < len
        · obtain ⟨y0, y1⟩ := hg (i + 2)
          have hcs := hc (i + 2) hls
          by_cases hdx : digB (g (i + 2)) 10 = true
          · have HD : Hid (i + 2 < len ∧ decB (g (i + 2)) = true) := show i + 2 < len ∧ decB (g (i + 2)) = true from ⟨hls, by rw [← digB_ten]; exact hdx⟩
            go_wp2_with (go_at_call 27; refine (isDigit_any _ _ _ (by assumption) (by assumption)).mono ?_; rintro e w' ⟨rfl, rfl⟩)
            go_loop [7] (fun t => ∃ j : Nat, i + 2 ≤ j ∧ j ≤ len ∧ t = .int .i64 (j : Int) ∧ Hid (∀ k, i + 2 ≤ k → k < j → decB (g k) = true)) (fun t => len - (intOf t).toNat)
            case atStart => exact ⟨i + 2, Nat.le_refl _, by omega, by go_num, show ∀ k, i + 2 ≤ k → k < i + 2 → decB (g k) = true from fun k h1 h2 => by omega⟩
            case round =>
              obtain ⟨j, hsj, hjl, rfl, HA⟩ := hrel
              clear hdx
              by_cases hlt : j < len
              · have hcj := hc j hlt
                obtain ⟨x0, x1⟩ := hg j
                clear hc hg
                by_cases hdj : digB (g j) 10 = true
                · have R : Hid (∀ k, i + 2 ≤ k → k < j + 1 → decB (g k) = true) := show ∀ k, i + 2 ≤ k → k < j + 1 → decB (g k) = true from fun k h1 h2 => by
                    by_cases e : k = j
                    · rw [e, ← digB_ten]; exact hdj
                    · exact HA.out k h1 (by omega)
                  clear HA
                  go_wp2_with (go_at_call 27; refine (isDigit_any _ _ _ (by assumption) (by assumption)).mono ?_; rintro e w' ⟨rfl, rfl⟩)
                  go_round
                  case rel => exact ⟨j + 1, by omega, by omega, by go_num, R⟩
                  case measure => simp [intOf]; omega
                · have hdj' : digB (g j) 10 = false := by simpa using hdj
                  have E : Hid (ExpR g m len i j) := exp_loop HM.out HS.out HD.out HA.out hsj hjl (Or.inr (by rw [← digB_ten]; exact hdj'))
                  clear hdj HA
                  go_wp2_with (go_at_call 27; refine (isDigit_any _ _ _ (by assumption) (by assumption)).mono ?_; rintro e w' ⟨rfl, rfl⟩)
                  go_ret
                  exact ⟨⟨j, rfl, E.out⟩, rfl⟩
              · have E : Hid (ExpR g m len i j) := exp_loop HM.out HS.out HD.out HA.out hsj hjl (Or.inl (by omega))
                clear hc hg HA
                go_wp2
                go_ret
                exact ⟨⟨j, rfl, E.out⟩, rfl⟩
          · have hdx' : digB (g (i + 2)) 10 = false := by simpa using hdx
            have E : Hid (ExpR g m len i i) := show ExpR g m len i i from Or.inl ⟨rfl, Or.inr ⟨i + 2, HS.out, Or.inr (by rw [← digB_ten]; exact hdx')⟩⟩
            clear hdx hc hg
            go_wp2_with (go_at_call 27; refine (isDigit_any _ _ _ (by assumption) (by assumption)).mono ?_; rintro e w' ⟨rfl, rfl⟩)
            go_ret
            exact ⟨⟨i, rfl, E.out⟩, rfl⟩
        · have E : Hid (ExpR g m len i i) := show ExpR g m len i i from Or.inl ⟨rfl, Or.inr ⟨i + 2, HS.out, Or.inl (by omega)⟩⟩
          clear hc hg
          go_wp2
          go_ret
          exact ⟨⟨i, rfl, E.out⟩, rfl⟩
      · have h43' : (g (i + 1) == 43) = false := by simpa using h43
        by_cases h45 : g (i + 1) = 45
        · have hsg : Sgn (g (i + 1)) := Or.inr h45
          have h45' : (g (i + 1) == 45) = true := by simpa using h45
          clear h43 h45
          go_enter Try.func25, Try.ntmps25
          have HS : Hid (StartS g len i (i + 2)) := show StartS g len i (i + 2) from Or.inr ⟨rfl, hl1, hsg⟩
          clear hsg
          by_cases hls : i + 2 < len
          · obtain ⟨y0, y1⟩ := hg (i + 2)
            have hcs := hc (i + 2) hls
            by_cases hdx : digB (g (i + 2)) 10 = true
            · have HD : Hid (i + 2 < len ∧ decB (g (i + 2)) = true) := show i + 2 < len ∧ decB (g (i + 2)) = true from ⟨hls, by rw [← digB_ten]; exact hdx⟩
              go_wp2_with (go_at_call 27; refine (isDigit_any _ _ _ (by assumption) (by assumption)).mono ?_; rintro e w' ⟨rfl, rfl⟩)
              go_loop [7] (fun t => ∃ j : Nat, i + 2 ≤ j ∧ j ≤ len ∧ t = .int .i64 (j : Int) ∧ Hid (∀ k, i + 2 ≤ k → k < j → decB (g k) = true)) (fun t => len - (intOf t).toNat)
              case atStart => exact ⟨i + 2, Nat.le_refl _, by omega, by go_num, show ∀ k, i + 2 ≤ k → k < i + 2 → decB (g k) = true from fun k h1 h2 => by omega⟩
              case round =>
                obtain ⟨j, hsj, hjl, rfl, HA⟩ := hrel
                clear hdx
                by_cases hlt : j < len
                · have hcj := hc j hlt
                  obtain ⟨x0, x1⟩ := hg j
                  clear hc hg
                  by_cases hdj : digB (g j) 10 = true
                  · have R : Hid (∀ k, i + 2 ≤ k → k < j + 1 → decB (g k) = true) := show ∀ k, i + 2 ≤ k → k < j + 1 → decB (g k) = true from fun k h1 h2 => by
                      by_cases e : k = j
                      · rw [e, ← digB_ten]; exact hdj
                      · exact HA.out k h1 (by omega)
                    clear HA
                    go_wp2_with (go_at_call 27; refine (isDigit_any _ _ _ (by assumption) (by assumption)).mono ?_; rintro e w' ⟨rfl, rfl⟩)
                    go_round
                    case rel => exact ⟨j + 1, by omega, by omega, by go_num, R⟩
                    case measure => simp [intOf]; omega
                  · have hdj' : digB (g j) 10 = false := by simpa using hdj
                    have E : Hid (ExpR g m len i j) := exp_loop HM.out HS.out HD.out HA.out hsj hjl (Or.inr (by rw [← digB_ten]; exact hdj'))
                    clear hdj HA
                    go_wp2_with (go_at_call 27; refine (isDigit_any _ _ _ (by assumption) (by assumption)).mono ?_; rintro e w' ⟨rfl, rfl⟩)
                    go_ret
                    exact ⟨⟨j, rfl, E.out⟩, rfl⟩
                · have E : Hid (ExpR g m len i j) := exp_loop HM.out HS.out HD.out HA.out hsj hjl (Or.inl (by omega))
                  clear hc hg HA
                  go_wp2
                  go_ret
                  exact ⟨⟨j, rfl, E.out⟩, rfl⟩
            · have hdx' : digB (g (i + 2)) 10 = false := by simpa using hdx
              have E : Hid (ExpR g m len i i) := show ExpR g m len i i from Or.inl ⟨rfl, Or.inr ⟨i + 2, HS.out, Or.inr (by rw [← digB_ten]; exact hdx')⟩⟩
              clear hdx hc hg
              go_wp2_with (go_at_call 27; refine (isDigit_any _ _ _ (by assumption) (by assumption)).mono ?_; rintro e w' ⟨rfl, rfl⟩)
              go_ret
              exact ⟨⟨i, rfl, E.out⟩, rfl⟩
          · have E : Hid (ExpR g m len i i) := show ExpR g m len i i from Or.inl ⟨rfl, Or.inr ⟨i + 2, HS.out, Or.inl (by omega)⟩⟩
            clear hc hg
            go_wp2
            go_ret
            exact ⟨⟨i, rfl, E.out⟩, rfl⟩
        · have h45' : (g (i + 1) == 45) = false := by simpa using h45
          have HS : Hid (StartS g len i (i + 1)) := show StartS g len i (i + 1) from Or.inl ⟨rfl, Or.inr (fun e => by rcases e with e | e <;> contradiction)⟩
          clear h43 h45
          have hls := hl1
          go_enter Try.func25, Try.ntmps25
          obtain ⟨y0, y1⟩ := hg (i + 1)
          by_cases hdx : digB (g (i + 1)) 10 = true
          · have HD : Hid (i + 1 < len ∧ decB (g (i + 1)) = true) := show i + 1 < len ∧ decB (g (i + 1)) = true from ⟨hls, by rw [← digB_ten]; exact hdx⟩
            go_wp2_with (go_at_call 27; refine (isDigit_any _ _ _ (by assumption) (by assumption)).mono ?_; rintro e w' ⟨rfl, rfl⟩)
            go_loop [7] (fun t => ∃ j : Nat, i + 1 ≤ j ∧ j ≤ len ∧ t = .int .i64 (j : Int) ∧ Hid (∀ k, i + 1 ≤ k → k < j → decB (g k) = true)) (fun t => len - (intOf t).toNat)
            case atStart => exact ⟨i + 1, Nat.le_refl _, by omega, by go_num, show ∀ k, i + 1 ≤ k → k < i + 1 → decB (g k) = true from fun k h1 h2 => by omega⟩
            case round =>
              obtain ⟨j, hsj, hjl, rfl, HA⟩ := hrel
              clear hdx
              by_cases hlt : j < len
              · have hcj := hc j hlt
                obtain ⟨x0, x1⟩ := hg j
                clear hc hg
                by_cases hdj : digB (g j) 10 = true
                · have R : Hid (∀ k, i + 1 ≤ k → k < j + 1 → decB (g k) = true) := show ∀ k, i + 1 ≤ k → k < j + 1 → decB (g k) = true from fun k h1 h2 => by
                    by_cases e : k = j
                    · rw [e, ← digB_ten]; exact hdj
                    · exact HA.out k h1 (by omega)
                  clear HA
                  go_wp2_with (go_at_call 27; refine (isDigit_any _ _ _ (by assumption) (by assumption)).mono ?_; rintro e w' ⟨rfl, rfl⟩)
                  go_round
                  case rel => exact ⟨j + 1, by omega, by omega, by go_num, R⟩
                  case measure => simp [intOf]; omega
                · have hdj' : digB (g j) 10 = false := by simpa using hdj
                  have E : Hid (ExpR g m len i j) := exp_loop HM.out HS.out HD.out HA.out hsj hjl (Or.inr (by rw [← digB_ten]; exact hdj'))
                  clear hdj HA
                  go_wp2_with (go_at_call 27; refine (isDigit_any _ _ _ (by assumption) (by assumption)).mono ?_; rintro e w' ⟨rfl, rfl⟩)
                  go_ret
                  exact ⟨⟨j, rfl, E.out⟩, rfl⟩
              · have E : Hid (ExpR g m len i j) := exp_loop HM.out HS.out HD.out HA.out hsj hjl (Or.inl (by omega))
                clear hc hg HA
                go_wp2
                go_ret
                exact ⟨⟨j, rfl, E.out⟩, rfl⟩
          · have hdx' : digB (g (i + 1)) 10 = false := by simpa using hdx
            have E : Hid (ExpR g m len i i) := show ExpR g m len i i from Or.inl ⟨rfl, Or.inr ⟨i + 1, HS.out, Or.inr (by rw [← digB_ten]; exact hdx')⟩⟩
            clear hdx hc hg
            go_wp2_with (go_at_call 27; refine (isDigit_any _ _ _ (by assumption) (by assumption)).mono ?_; rintro e w' ⟨rfl, rfl⟩)
            go_ret
            exact ⟨⟨i, rfl, E.out⟩, rfl⟩
    · have E : Hid (ExpR g m len i i) := show ExpR g m len i i from Or.inl ⟨rfl, Or.inr ⟨i + 1, Or.inl ⟨rfl, Or.inl (by omega)⟩, Or.inl (by omega)⟩⟩
      clear hc hg
      go_enter Try.func25, Try.ntmps25
      go_wp2
      go_ret
      exact ⟨⟨i, rfl, E.out⟩, rfl⟩
  · have E : Hid (ExpR g m len i i) := show ExpR g m len i i from Or.inl ⟨rfl, Or.inl (fun e => hdm (hmk.2 e))⟩
    have hdm' : (d != m) = true := by simpa using hdm
    clear hmk hdm hc hg
    go_enter Try.func25, Try.ntmps25
    go_wp2
    go_ret
    exact ⟨⟨i, rfl, E.out⟩, rfl⟩
end Go.Proofs.Qxb6617244a
