import Derived.Test.Qxb6617244aExp
namespace Go.Proofs.Qxb6617244a
open Go.RowKit

theorem zzexp_ge (a : Option Addr) (len cap : Nat) (i m : Int) (w : World) (hi : (len : Int) ≤ i) :
    Calls Try.prog 16 #[.slice a len cap, .int .i64 i, .int .u8 m] w fun e w' => e = .returned (.int .i64 i) ∧ w' = w := by
  go_enter Try.func16, Try.ntmps16
  go_wp2_with (go_at_call 25; refine (exp_ge _ _ _ _ _ _ hi).mono ?_; rintro e w' ⟨rfl, rfl⟩)
  go_ret
  exact ⟨rfl, rfl⟩

theorem zzexp_lt (b off len cap : Nat) (g : Nat → Int) (i : Nat) (m : Int) (w : World) (hlen : len ≤ 1000000000000) (hi : i < len) (hg : ∀ k, 0 ≤ g k ∧ g k ≤ 255) (h97 : 97 ≤ m) (h122 : m ≤ 122)
    (hc : ∀ k, k < len → w.cell? ⟨b, off + k, none⟩ = some (.int .u8 (g k))) :
    Calls Try.prog 16 #[.slice (some ⟨b, off, none⟩) len cap, .int .i64 i, .int .u8 m] w fun e w' => (∃ r : Nat, e = .returned (.int .i64 (r : Int)) ∧ ExpR g m len i r) ∧ w' = w := by
  go_enter Try.func16, Try.ntmps16
  go_wp2_with fail
  refine (exp_lt b off len cap g i m w hlen hi hg h97 h122 hc).mono ?_
  rintro e w' ⟨⟨r, rfl, hr⟩, rfl⟩
  have HR : Hid (ExpR g m len i r) := hr
  clear hr
  go_wp2
  go_ret
  exact ⟨⟨r, rfl, HR.out⟩, rfl⟩

/-- What zzIsExponent answers. -/
def ExpE (g : Nat → Int) (m : Int) (s n : Nat) (e : Ending) : Prop := ∃ r : Bool, e = .returned (.bool r) ∧ (r = true ↔ ExpP g m s n)

set_option maxHeartbeats 2000000 in
theorem isExp_mark (b off n cap : Nat) (g : Nat → Int) (s : Nat) (m : Int) (w : World) (hlen : n ≤ 1000000000000) (hn : 2 ≤ n) (HM : Hid (IsMark (g s) m)) (h97 : 97 ≤ m) (h122 : m ≤ 122)
    (hc : ∀ k, k < n → w.cell? ⟨b, off + k, none⟩ = some (.int .u8 (g (s + k)))) (hdm : (g s != m) = false ∨ ((g s != m) = true ∧ (g s != m - 32) = false)) :
    Calls Try.prog 17 #[.slice (some ⟨b, off, none⟩) n cap, .int .u8 m] w fun e w' => ExpE g m s n e ∧ w' = w := by
  have hc0 : w.cell? ⟨b, off, none⟩ = some (.int .u8 (g s)) := by simpa using hc 0 (by omega)
  have hc1 := hc 1 (by omega)
  rcases hdm with hdm | ⟨hdm, hdm2⟩
  · by_cases h43 : g (s + 1) = 43
    · have hsg : Sgn (g (s + 1)) := Or.inl h43
      have h43' : (g (s + 1) == 43) = true := by simpa using h43
      clear h43
      go_enter Try.func17, Try.ntmps17
      have HS : Hid (∀ k0, ((k0 = 1 ∧ ¬ Sgn (g (s + 1))) ∨ (k0 = 2 ∧ Sgn (g (s + 1)))) → k0 = 2) := show ∀ k0, ((k0 = 1 ∧ ¬ Sgn (g (s + 1))) ∨ (k0 = 2 ∧ Sgn (g (s + 1)))) → k0 = 2 from fun k0 h => by
        rcases h with ⟨_, h⟩ | ⟨h, _⟩
        · exact absurd hsg h
        · exact h
      have HS2 : Hid (Sgn (g (s + 1))) := hsg
      clear hsg
      by_cases hn2 : 2 < n
      · go_wp2
        go_loop [5] (fun t => ∃ k : Nat, 2 ≤ k ∧ k ≤ n ∧ t = .int .i64 (k : Int) ∧ Hid (∀ q, 2 ≤ q → q < k → decB (g (s + q)) = true)) (fun t => n - (intOf t).toNat)
        case atStart => exact ⟨2, Nat.le_refl _, by omega, rfl, show ∀ q, 2 ≤ q → q < 2 → decB (g (s + q)) = true from fun k h1 h2 => by omega⟩
        case round =>
          obtain ⟨k, hk1, hkn, rfl, HA⟩ := hrel
          by_cases hlt : k < n
          · have hck := hc k hlt
            clear hc
            by_cases hdk : decB (g (s + k)) = true
            · have R : Hid (∀ q, 2 ≤ q → q < k + 1 → decB (g (s + q)) = true) := show ∀ q, 2 ≤ q → q < k + 1 → decB (g (s + q)) = true from fun q h1 h2 => by
                by_cases e : q = k
                · rw [e]; exact hdk
                · exact HA.out q h1 (by omega)
              clear HA
              go_wp2_with (go_at_call 18; refine (isDec_any _ _).mono ?_; rintro e w' ⟨rfl, rfl⟩)
              go_round
              case rel => exact ⟨k + 1, by omega, by omega, by go_num, R⟩
              case measure => simp [intOf]; omega
            · have hdk' : decB (g (s + k)) = false := by simpa using hdk
              have E : Hid (¬ ExpP g m s n) := show ¬ ExpP g m s n from fun hP => by
                obtain ⟨_, _, k0, h0, h1, h2⟩ := hP
                have hk0 := HS.out k0 h0
                subst hk0
                exact hdk (h2 k hk1 hlt)
              clear hdk HA
              go_wp2_with (go_at_call 18; refine (isDec_any _ _).mono ?_; rintro e w' ⟨rfl, rfl⟩)
              go_ret
              exact ⟨⟨false, rfl, ⟨fun h => (by cases h), fun h => absurd h E.out⟩⟩, rfl⟩
          · have E : Hid (ExpP g m s n) := show ExpP g m s n from ⟨by omega, HM.out, 2, Or.inr ⟨rfl, HS2.out⟩, by omega, fun q h1 h2 => HA.out q h1 (by omega)⟩
            clear hc HA
            go_wp2
            go_ret
            exact ⟨⟨true, rfl, ⟨fun _ => E.out, fun _ => rfl⟩⟩, rfl⟩
      · have E : Hid (¬ ExpP g m s n) := show ¬ ExpP g m s n from fun hP => by
          obtain ⟨_, _, k0, h0, h1, h2⟩ := hP
          have hk0 := HS.out k0 h0
          omega
        have hn : n = 2 := by omega
        subst hn
        clear hc
        go_wp2
        go_ret
        exact ⟨⟨false, rfl, ⟨fun h => (by cases h), fun h => absurd h E.out⟩⟩, rfl⟩
    · have h43' : (g (s + 1) == 43) = false := by simpa using h43
      by_cases h45 : g (s + 1) = 45
      · have hsg : Sgn (g (s + 1)) := Or.inr h45
        have h45' : (g (s + 1) == 45) = true := by simpa using h45
        clear h43 h45
        go_enter Try.func17, Try.ntmps17
        have HS : Hid (∀ k0, ((k0 = 1 ∧ ¬ Sgn (g (s + 1))) ∨ (k0 = 2 ∧ Sgn (g (s + 1)))) → k0 = 2) := show ∀ k0, ((k0 = 1 ∧ ¬ Sgn (g (s + 1))) ∨ (k0 = 2 ∧ Sgn (g (s + 1)))) → k0 = 2 from fun k0 h => by
          rcases h with ⟨_, h⟩ | ⟨h, _⟩
          · exact absurd hsg h
          · exact h
        have HS2 : Hid (Sgn (g (s + 1))) := hsg
        clear hsg
        by_cases hn2 : 2 < n
        · go_wp2
          go_loop [5] (fun t => ∃ k : Nat, 2 ≤ k ∧ k ≤ n ∧ t = .int .i64 (k : Int) ∧ Hid (∀ q, 2 ≤ q → q < k → decB (g (s + q)) = true)) (fun t => n - (intOf t).toNat)
          case atStart => exact ⟨2, Nat.le_refl _, by omega, rfl, show ∀ q, 2 ≤ q → q < 2 → decB (g (s + q)) = true from fun k h1 h2 => by omega⟩
          case round =>
            obtain ⟨k, hk1, hkn, rfl, HA⟩ := hrel
            by_cases hlt : k < n
            · have hck := hc k hlt
              clear hc
              by_cases hdk : decB (g (s + k)) = true
              · have R : Hid (∀ q, 2 ≤ q → q < k + 1 → decB (g (s + q)) = true) := show ∀ q, 2 ≤ q → q < k + 1 → decB (g (s + q)) = true from fun q h1 h2 => by
                  by_cases e : q = k
                  · rw [e]; exact hdk
                  · exact HA.out q h1 (by omega)
                clear HA
                go_wp2_with (go_at_call 18; refine (isDec_any _ _).mono ?_; rintro e w' ⟨rfl, rfl⟩)
                go_round
                case rel => exact ⟨k + 1, by omega, by omega, by go_num, R⟩
                case measure => simp [intOf]; omega
              · have hdk' : decB (g (s + k)) = false := by simpa using hdk
                have E : Hid (¬ ExpP g m s n) := show ¬ ExpP g m s n from fun hP => by
                  obtain ⟨_, _, k0, h0, h1, h2⟩ := hP
                  have hk0 := HS.out k0 h0
                  subst hk0
                  exact hdk (h2 k hk1 hlt)
                clear hdk HA
                go_wp2_with (go_at_call 18; refine (isDec_any _ _).mono ?_; rintro e w' ⟨rfl, rfl⟩)
                go_ret
                exact ⟨⟨false, rfl, ⟨fun h => (by cases h), fun h => absurd h E.out⟩⟩, rfl⟩
            · have E : Hid (ExpP g m s n) := show ExpP g m s n from ⟨by omega, HM.out, 2, Or.inr ⟨rfl, HS2.out⟩, by omega, fun q h1 h2 => HA.out q h1 (by omega)⟩
              clear hc HA
              go_wp2
              go_ret
              exact ⟨⟨true, rfl, ⟨fun _ => E.out, fun _ => rfl⟩⟩, rfl⟩
        · have E : Hid (¬ ExpP g m s n) := show ¬ ExpP g m s n from fun hP => by
            obtain ⟨_, _, k0, h0, h1, h2⟩ := hP
            have hk0 := HS.out k0 h0
            omega
          have hn : n = 2 := by omega
          subst hn
          clear hc
          go_wp2
          go_ret
          exact ⟨⟨false, rfl, ⟨fun h => (by cases h), fun h => absurd h E.out⟩⟩, rfl⟩
      · have h45' : (g (s + 1) == 45) = false := by simpa using h45
        have hsg : ¬ Sgn (g (s + 1)) := fun e => by rcases e with e | e <;> contradiction
        have HS : Hid (∀ k0, ((k0 = 1 ∧ ¬ Sgn (g (s + 1))) ∨ (k0 = 2 ∧ Sgn (g (s + 1)))) → k0 = 1) := show ∀ k0, ((k0 = 1 ∧ ¬ Sgn (g (s + 1))) ∨ (k0 = 2 ∧ Sgn (g (s + 1)))) → k0 = 1 from fun k0 h => by
          rcases h with ⟨h, _⟩ | ⟨_, h⟩
          · exact h
          · exact absurd h hsg
        have HS2 : Hid (¬ Sgn (g (s + 1))) := hsg
        clear h43 h45 hsg
        go_enter Try.func17, Try.ntmps17
        go_wp2
        go_loop [5] (fun t => ∃ k : Nat, 1 ≤ k ∧ k ≤ n ∧ t = .int .i64 (k : Int) ∧ Hid (∀ q, 1 ≤ q → q < k → decB (g (s + q)) = true)) (fun t => n - (intOf t).toNat)
        case atStart => exact ⟨1, Nat.le_refl _, by omega, rfl, show ∀ q, 1 ≤ q → q < 1 → decB (g (s + q)) = true from fun k h1 h2 => by omega⟩
        case round =>
          obtain ⟨k, hk1, hkn, rfl, HA⟩ := hrel
          by_cases hlt : k < n
          · have hck := hc k hlt
            clear hc
            by_cases hdk : decB (g (s + k)) = true
            · have R : Hid (∀ q, 1 ≤ q → q < k + 1 → decB (g (s + q)) = true) := show ∀ q, 1 ≤ q → q < k + 1 → decB (g (s + q)) = true from fun q h1 h2 => by
                by_cases e : q = k
                · rw [e]; exact hdk
                · exact HA.out q h1 (by omega)
              clear HA
              go_wp2_with (go_at_call 18; refine (isDec_any _ _).mono ?_; rintro e w' ⟨rfl, rfl⟩)
              go_round
              case rel => exact ⟨k + 1, by omega, by omega, by go_num, R⟩
              case measure => simp [intOf]; omega
            · have hdk' : decB (g (s + k)) = false := by simpa using hdk
              have E : Hid (¬ ExpP g m s n) := show ¬ ExpP g m s n from fun hP => by
                obtain ⟨_, _, k0, h0, h1, h2⟩ := hP
                have hk0 := HS.out k0 h0
                subst hk0
                exact hdk (h2 k hk1 hlt)
              clear hdk HA
              go_wp2_with (go_at_call 18; refine (isDec_any _ _).mono ?_; rintro e w' ⟨rfl, rfl⟩)
              go_ret
              exact ⟨⟨false, rfl, ⟨fun h => (by cases h), fun h => absurd h E.out⟩⟩, rfl⟩
          · have E : Hid (ExpP g m s n) := show ExpP g m s n from ⟨by omega, HM.out, 1, Or.inl ⟨rfl, HS2.out⟩, by omega, fun q h1 h2 => HA.out q h1 (by omega)⟩
            clear hc HA
            go_wp2
            go_ret
            exact ⟨⟨true, rfl, ⟨fun _ => E.out, fun _ => rfl⟩⟩, rfl⟩
  · by_cases h43 : g (s + 1) = 43
    · have hsg : Sgn (g (s + 1)) := Or.inl h43
      have h43' : (g (s + 1) == 43) = true := by simpa using h43
      clear h43
      go_enter Try.func17, Try.ntmps17
      have HS : Hid (∀ k0, ((k0 = 1 ∧ ¬ Sgn (g (s + 1))) ∨ (k0 = 2 ∧ Sgn (g (s + 1)))) → k0 = 2) := show ∀ k0, ((k0 = 1 ∧ ¬ Sgn (g (s + 1))) ∨ (k0 = 2 ∧ Sgn (g (s + 1)))) → k0 = 2 from fun k0 h => by
        rcases h with ⟨_, h⟩ | ⟨h, _⟩
        · exact absurd hsg h
        · exact h
      have HS2 : Hid (Sgn (g (s + 1))) := hsg
      clear hsg
      by_cases hn2 : 2 < n
      · go_wp2
        go_loop [5] (fun t => ∃ k : Nat, 2 ≤ k ∧ k ≤ n ∧ t = .int .i64 (k : Int) ∧ Hid (∀ q, 2 ≤ q → q < k → decB (g (s + q)) = true)) (fun t => n - (intOf t).toNat)
        case atStart => exact ⟨2, Nat.le_refl _, by omega, rfl, show ∀ q, 2 ≤ q → q < 2 → decB (g (s + q)) = true from fun k h1 h2 => by omega⟩
        case round =>
          obtain ⟨k, hk1, hkn, rfl, HA⟩ := hrel
          by_cases hlt : k < n
          · have hck := hc k hlt
            clear hc
            by_cases hdk : decB (g (s + k)) = true
            · have R : Hid (∀ q, 2 ≤ q → q < k + 1 → decB (g (s + q)) = true) := show ∀ q, 2 ≤ q → q < k + 1 → decB (g (s + q)) = true from fun q h1 h2 => by
                by_cases e : q = k
                · rw [e]; exact hdk
                · exact HA.out q h1 (by omega)
              clear HA
              go_wp2_with (go_at_call 18; refine (isDec_any _ _).mono ?_; rintro e w' ⟨rfl, rfl⟩)
              go_round
              case rel => exact ⟨k + 1, by omega, by omega, by go_num, R⟩
              case measure => simp [intOf]; omega
            · have hdk' : decB (g (s + k)) = false := by simpa using hdk
              have E : Hid (¬ ExpP g m s n) := show ¬ ExpP g m s n from fun hP => by
                obtain ⟨_, _, k0, h0, h1, h2⟩ := hP
                have hk0 := HS.out k0 h0
                subst hk0
                exact hdk (h2 k hk1 hlt)
              clear hdk HA
              go_wp2_with (go_at_call 18; refine (isDec_any _ _).mono ?_; rintro e w' ⟨rfl, rfl⟩)
              go_ret
              exact ⟨⟨false, rfl, ⟨fun h => (by cases h), fun h => absurd h E.out⟩⟩, rfl⟩
          · have E : Hid (ExpP g m s n) := show ExpP g m s n from ⟨by omega, HM.out, 2, Or.inr ⟨rfl, HS2.out⟩, by omega, fun q h1 h2 => HA.out q h1 (by omega)⟩
            clear hc HA
            go_wp2
            go_ret
            exact ⟨⟨true, rfl, ⟨fun _ => E.out, fun _ => rfl⟩⟩, rfl⟩
      · have E : Hid (¬ ExpP g m s n) := show ¬ ExpP g m s n from fun hP => by
          obtain ⟨_, _, k0, h0, h1, h2⟩ := hP
          have hk0 := HS.out k0 h0
          omega
        have hn : n = 2 := by omega
        subst hn
        clear hc
        go_wp2
        go_ret
        exact ⟨⟨false, rfl, ⟨fun h => (by cases h), fun h => absurd h E.out⟩⟩, rfl⟩
    · have h43' : (g (s + 1) == 43) = false := by simpa using h43
      by_cases h45 : g (s + 1) = 45
      · have hsg : Sgn (g (s + 1)) := Or.inr h45
        have h45' : (g (s + 1) == 45) = true := by simpa using h45
        clear h43 h45
        go_enter Try.func17, Try.ntmps17
        have HS : Hid (∀ k0, ((k0 = 1 ∧ ¬ Sgn (g (s + 1))) ∨ (k0 = 2 ∧ Sgn (g (s + 1)))) → k0 = 2) := show ∀ k0, ((k0 = 1 ∧ ¬ Sgn (g (s + 1))) ∨ (k0 = 2 ∧ Sgn (g (s + 1)))) → k0 = 2 from fun k0 h => by
          rcases h with ⟨_, h⟩ | ⟨h, _⟩
          · exact absurd hsg h
          · exact h
        have HS2 : Hid (Sgn (g (s + 1))) := hsg
        clear hsg
        by_cases hn2 : 2 < n
        · go_wp2
          go_loop [5] (fun t => ∃ k : Nat, 2 ≤ k ∧ k ≤ n ∧ t = .int .i64 (k : Int) ∧ Hid (∀ q, 2 ≤ q → q < k → decB (g (s + q)) = true)) (fun t => n - (intOf t).toNat)
          case atStart => exact ⟨2, Nat.le_refl _, by omega, rfl, show ∀ q, 2 ≤ q → q < 2 → decB (g (s + q)) = true from fun k h1 h2 => by omega⟩
          case round =>
            obtain ⟨k, hk1, hkn, rfl, HA⟩ := hrel
            by_cases hlt : k < n
            · have hck := hc k hlt
              clear hc
              by_cases hdk : decB (g (s + k)) = true
              · have R : Hid (∀ q, 2 ≤ q → q < k + 1 → decB (g (s + q)) = true) := show ∀ q, 2 ≤ q → q < k + 1 → decB (g (s + q)) = true from fun q h1 h2 => by
                  by_cases e : q = k
                  · rw [e]; exact hdk
                  · exact HA.out q h1 (by omega)
                clear HA
                go_wp2_with (go_at_call 18; refine (isDec_any _ _).mono ?_; rintro e w' ⟨rfl, rfl⟩)
                go_round
                case rel => exact ⟨k + 1, by omega, by omega, by go_num, R⟩
                case measure => simp [intOf]; omega
              · have hdk' : decB (g (s + k)) = false := by simpa using hdk
                have E : Hid (¬ ExpP g m s n) := show ¬ ExpP g m s n from fun hP => by
                  obtain ⟨_, _, k0, h0, h1, h2⟩ := hP
                  have hk0 := HS.out k0 h0
                  subst hk0
                  exact hdk (h2 k hk1 hlt)
                clear hdk HA
                go_wp2_with (go_at_call 18; refine (isDec_any _ _).mono ?_; rintro e w' ⟨rfl, rfl⟩)
                go_ret
                exact ⟨⟨false, rfl, ⟨fun h => (by cases h), fun h => absurd h E.out⟩⟩, rfl⟩
            · have E : Hid (ExpP g m s n) := show ExpP g m s n from ⟨by omega, HM.out, 2, Or.inr ⟨rfl, HS2.out⟩, by omega, fun q h1 h2 => HA.out q h1 (by omega)⟩
              clear hc HA
              go_wp2
              go_ret
              exact ⟨⟨true, rfl, ⟨fun _ => E.out, fun _ => rfl⟩⟩, rfl⟩
        · have E : Hid (¬ ExpP g m s n) := show ¬ ExpP g m s n from fun hP => by
            obtain ⟨_, _, k0, h0, h1, h2⟩ := hP
            have hk0 := HS.out k0 h0
            omega
          have hn : n = 2 := by omega
          subst hn
          clear hc
          go_wp2
          go_ret
          exact ⟨⟨false, rfl, ⟨fun h => (by cases h), fun h => absurd h E.out⟩⟩, rfl⟩
      · have h45' : (g (s + 1) == 45) = false := by simpa using h45
        have hsg : ¬ Sgn (g (s + 1)) := fun e => by rcases e with e | e <;> contradiction
        have HS : Hid (∀ k0, ((k0 = 1 ∧ ¬ Sgn (g (s + 1))) ∨ (k0 = 2 ∧ Sgn (g (s + 1)))) → k0 = 1) := show ∀ k0, ((k0 = 1 ∧ ¬ Sgn (g (s + 1))) ∨ (k0 = 2 ∧ Sgn (g (s + 1)))) → k0 = 1 from fun k0 h => by
          rcases h with ⟨h, _⟩ | ⟨_, h⟩
          · exact h
          · exact absurd h hsg
        have HS2 : Hid (¬ Sgn (g (s + 1))) := hsg
        clear h43 h45 hsg
        go_enter Try.func17, Try.ntmps17
        go_wp2
        go_loop [5] (fun t => ∃ k : Nat, 1 ≤ k ∧ k ≤ n ∧ t = .int .i64 (k : Int) ∧ Hid (∀ q, 1 ≤ q → q < k → decB (g (s + q)) = true)) (fun t => n - (intOf t).toNat)
        case atStart => exact ⟨1, Nat.le_refl _, by omega, rfl, show ∀ q, 1 ≤ q → q < 1 → decB (g (s + q)) = true from fun k h1 h2 => by omega⟩
        case round =>
          obtain ⟨k, hk1, hkn, rfl, HA⟩ := hrel
          by_cases hlt : k < n
          · have hck := hc k hlt
            clear hc
            by_cases hdk : decB (g (s + k)) = true
            · have R : Hid (∀ q, 1 ≤ q → q < k + 1 → decB (g (s + q)) = true) := show ∀ q, 1 ≤ q → q < k + 1 → decB (g (s + q)) = true from fun q h1 h2 => by
                by_cases e : q = k
                · rw [e]; exact hdk
                · exact HA.out q h1 (by omega)
              clear HA
              go_wp2_with (go_at_call 18; refine (isDec_any _ _).mono ?_; rintro e w' ⟨rfl, rfl⟩)
              go_round
              case rel => exact ⟨k + 1, by omega, by omega, by go_num, R⟩
              case measure => simp [intOf]; omega
            · have hdk' : decB (g (s + k)) = false := by simpa using hdk
              have E : Hid (¬ ExpP g m s n) := show ¬ ExpP g m s n from fun hP => by
                obtain ⟨_, _, k0, h0, h1, h2⟩ := hP
                have hk0 := HS.out k0 h0
                subst hk0
                exact hdk (h2 k hk1 hlt)
              clear hdk HA
              go_wp2_with (go_at_call 18; refine (isDec_any _ _).mono ?_; rintro e w' ⟨rfl, rfl⟩)
              go_ret
              exact ⟨⟨false, rfl, ⟨fun h => (by cases h), fun h => absurd h E.out⟩⟩, rfl⟩
          · have E : Hid (ExpP g m s n) := show ExpP g m s n from ⟨by omega, HM.out, 1, Or.inl ⟨rfl, HS2.out⟩, by omega, fun q h1 h2 => HA.out q h1 (by omega)⟩
            clear hc HA
            go_wp2
            go_ret
            exact ⟨⟨true, rfl, ⟨fun _ => E.out, fun _ => rfl⟩⟩, rfl⟩

theorem isExp_any (b off n cap : Nat) (g : Nat → Int) (s : Nat) (m : Int) (w : World) (hlen : n ≤ 1000000000000) (h97 : 97 ≤ m) (h122 : m ≤ 122)
    (hc : ∀ k, k < n → w.cell? ⟨b, off + k, none⟩ = some (.int .u8 (g (s + k)))) :
    Calls Try.prog 17 #[.slice (some ⟨b, off, none⟩) n cap, .int .u8 m] w fun e w' => ExpE g m s n e ∧ w' = w := by
  by_cases hn : 2 ≤ n
  · have hc0 : w.cell? ⟨b, off, none⟩ = some (.int .u8 (g s)) := by simpa using hc 0 (by omega)
    by_cases hdm : g s = m
    · exact isExp_mark b off n cap g s m w hlen hn (Or.inl hdm) h97 h122 hc (Or.inl (by simpa using hdm))
    · by_cases hdm2 : g s = m - 32
      · exact isExp_mark b off n cap g s m w hlen hn (Or.inr hdm2) h97 h122 hc (Or.inr ⟨by simpa using hdm, by simpa using hdm2⟩)
      · have E : Hid (¬ ExpP g m s n) := show ¬ ExpP g m s n from fun hP => by
          rcases hP.2.1 with e | e
          · exact hdm e
          · exact hdm2 e
        have e1 : (g s != m) = true := by simpa using hdm
        have e2 : (g s != m - 32) = true := by simpa using hdm2
        clear hdm hdm2 hc
        go_enter Try.func17, Try.ntmps17
        go_wp2
        go_ret
        exact ⟨⟨false, rfl, ⟨fun h => (by cases h), fun h => absurd h E.out⟩⟩, rfl⟩
  · have E : Hid (¬ ExpP g m s n) := show ¬ ExpP g m s n from fun hP => hn hP.1
    clear hc
    go_enter Try.func17, Try.ntmps17
    go_wp2
    go_ret
    exact ⟨⟨false, rfl, ⟨fun h => (by cases h), fun h => absurd h E.out⟩⟩, rfl⟩

theorem isExp_true (b off n cap : Nat) (g : Nat → Int) (s : Nat) (m : Int) (w : World) (hlen : n ≤ 1000000000000) (h97 : 97 ≤ m) (h122 : m ≤ 122) (hN : ExpP g m s n)
    (hc : ∀ k, k < n → w.cell? ⟨b, off + k, none⟩ = some (.int .u8 (g (s + k)))) :
    Calls Try.prog 17 #[.slice (some ⟨b, off, none⟩) n cap, .int .u8 m] w fun e w' => e = .returned (.bool true) ∧ w' = w :=
  (isExp_any b off n cap g s m w hlen h97 h122 hc).mono fun e w' ⟨⟨r, he, hr⟩, hw⟩ => ⟨by rw [he, hr.2 hN], hw⟩

theorem isExp_false (b off n cap : Nat) (g : Nat → Int) (s : Nat) (m : Int) (w : World) (hlen : n ≤ 1000000000000) (h97 : 97 ≤ m) (h122 : m ≤ 122) (hN : ¬ ExpP g m s n)
    (hc : ∀ k, k < n → w.cell? ⟨b, off + k, none⟩ = some (.int .u8 (g (s + k)))) :
    Calls Try.prog 17 #[.slice (some ⟨b, off, none⟩) n cap, .int .u8 m] w fun e w' => e = .returned (.bool false) ∧ w' = w :=
  (isExp_any b off n cap g s m w hlen h97 h122 hc).mono fun e w' ⟨⟨r, he, hr⟩, hw⟩ => ⟨by
    have : r = false := by cases r with
      | true => exact absurd (hr.1 rfl) hN
      | false => rfl
    rw [he, this], hw⟩
end Go.Proofs.Qxb6617244a
