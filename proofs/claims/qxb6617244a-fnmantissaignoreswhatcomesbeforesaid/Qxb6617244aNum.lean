import Derived.Test.Qxb6617244aMant
import Derived.Test.Qxb6617244aParts
namespace Go.Proofs.Qxb6617244a
open Go.RowKit

theorem zzmant_ge (a : Option Addr) (len cap : Nat) (i base : Int) (w : World) (hi : (len : Int) ≤ i) :
    Calls Try.prog 10 #[.slice a len cap, .int .i64 i, .int .i64 base] w fun e w' => e = .returned (.tuple #[.int .i64 0, .int .i64 i, .bool false]) ∧ w' = w := by
  go_enter Try.func10, Try.ntmps10
  go_wp2_with (go_at_call 24; refine (mant_ge _ _ _ _ _ _ hi).mono ?_; rintro e w' ⟨rfl, rfl⟩)
  go_ret3
  exact ⟨rfl, rfl⟩

theorem zzmant_lt (b off len cap : Nat) (g : Nat → Int) (i : Nat) (base : Int) (w : World) (hlen : len ≤ 1000000000000) (hi : i < len) (hg : ∀ k, 0 ≤ g k ∧ g k ≤ 255)
    (hc : ∀ k, k < len → w.cell? ⟨b, off + k, none⟩ = some (.int .u8 (g k))) :
    Calls Try.prog 10 #[.slice (some ⟨b, off, none⟩) len cap, .int .i64 i, .int .i64 base] w fun e w' => MantE g base len i e ∧ w' = w := by
  go_enter Try.func10, Try.ntmps10
  go_wp2_with fail
  refine (mant_lt b off len cap g i base w hlen hi hg hc).mono ?_
  rintro e w' ⟨⟨n, D, Z, q, rfl, hn, hms, hst⟩, rfl⟩
  go_wp2
  go_ret3
  exact ⟨⟨n, D, Z, q, ret_mant rfl (by omega) rfl, hn, hms, hst⟩, rfl⟩

/-- What zzIsNumeral answers. -/
def NumE (g : Nat → Int) (base : Int) (s n : Nat) (e : Ending) : Prop := ∃ r : Bool, e = .returned (.bool r) ∧ (r = true ↔ Num g base s n)

theorem numeral_any (b off n cap : Nat) (g : Nat → Int) (s : Nat) (base : Int) (w : World) (hlen : n ≤ 1000000000000)
    (hc : ∀ k, k < n → w.cell? ⟨b, off + k, none⟩ = some (.int .u8 (g (s + k)))) :
    Calls Try.prog 11 #[.slice (some ⟨b, off, none⟩) n cap, .int .i64 base] w fun e w' => NumE g base s n e ∧ w' = w := by
  go_enter Try.func11, Try.ntmps11
  go_wp2
  go_loop [5, 6] (fun tp tk => ∃ (k P : Nat), k ≤ n ∧ P ≤ k ∧ tk = .int .i64 (k : Int) ∧ tp = .int .i64 (P : Int) ∧ Hid (P = pts g s k) ∧ AllD g base s k) (fun _ tk => n - (intOf tk).toNat)
  case atStart => exact ⟨0, 0, by omega, by omega, rfl, rfl, rfl, fun k hk => by omega⟩
  case round =>
    obtain ⟨k, P, hk, hP, rfl, rfl, HP, hall⟩ := hrel
    by_cases hlt : k < n
    · have hck := hc k hlt
      clear hc
      by_cases h46 : g (s + k) = 46
      · have h46' : (g (s + k) == 46) = true := by simpa using h46
        have R : Hid (P + 1 = pts g s (k + 1)) := show P + 1 = pts g s (k + 1) by simp [pts, h46, HP.out]
        have R2 := hall.snoc (Or.inl h46)
        clear h46 hall HP
        go_wp2_with (go_at_call 14; refine (isDigitOf_any _ _ _).mono ?_; rintro e w' ⟨rfl, rfl⟩)
        go_round
        case rel => exact ⟨k + 1, P + 1, by omega, by omega, by go_num, by go_num, R, R2⟩
        case measure => simp [intOf]; omega
      · have h46' : (g (s + k) == 46) = false := by simpa using h46
        by_cases hdg : digB (g (s + k)) base = true
        · have R : Hid (P = pts g s (k + 1)) := show P = pts g s (k + 1) by simp [pts, h46, HP.out]
          have R2 := hall.snoc (Or.inr hdg)
          clear h46 hall HP
          go_wp2_with (go_at_call 14; refine (isDigitOf_any _ _ _).mono ?_; rintro e w' ⟨rfl, rfl⟩)
          go_round
          case rel => exact ⟨k + 1, P, by omega, by omega, by go_num, rfl, R, R2⟩
          case measure => simp [intOf]; omega
        · have hdg' : digB (g (s + k)) base = false := by simpa using hdg
          have R : Hid (¬ Num g base s n) := show ¬ Num g base s n from fun hN => by
            rcases hN.1 k hlt with e | e
            · exact h46 e
            · exact hdg e
          clear h46 hdg hall HP
          go_wp2_with (go_at_call 14; refine (isDigitOf_any _ _ _).mono ?_; rintro e w' ⟨rfl, rfl⟩)
          go_ret
          exact ⟨⟨false, rfl, ⟨fun h => (by cases h), fun h => absurd h R.out⟩⟩, rfl⟩
    · clear hc
      have hkn : k = n := by omega
      subst hkn
      go_wp2
      go_ret
      refine ⟨⟨decide ((P : Int) ≤ 1), ret_bool (by simp), ?_⟩, rfl⟩
      rw [decide_eq_true_iff]
      have e := HP.out
      exact ⟨fun h => ⟨hall, by omega⟩, fun h => by have := h.2; omega⟩

theorem numeral_true (b off n cap : Nat) (g : Nat → Int) (s : Nat) (base : Int) (w : World) (hlen : n ≤ 1000000000000) (hN : Num g base s n)
    (hc : ∀ k, k < n → w.cell? ⟨b, off + k, none⟩ = some (.int .u8 (g (s + k)))) :
    Calls Try.prog 11 #[.slice (some ⟨b, off, none⟩) n cap, .int .i64 base] w fun e w' => e = .returned (.bool true) ∧ w' = w :=
  (numeral_any b off n cap g s base w hlen hc).mono fun e w' ⟨⟨r, he, hr⟩, hw⟩ => ⟨by rw [he, hr.2 hN], hw⟩

theorem numeral_false (b off n cap : Nat) (g : Nat → Int) (s : Nat) (base : Int) (w : World) (hlen : n ≤ 1000000000000) (hN : ¬ Num g base s n)
    (hc : ∀ k, k < n → w.cell? ⟨b, off + k, none⟩ = some (.int .u8 (g (s + k)))) :
    Calls Try.prog 11 #[.slice (some ⟨b, off, none⟩) n cap, .int .i64 base] w fun e w' => e = .returned (.bool false) ∧ w' = w :=
  (numeral_any b off n cap g s base w hlen hc).mono fun e w' ⟨⟨r, he, hr⟩, hw⟩ => ⟨by
    have : r = false := by cases r with
      | true => exact absurd (hr.1 rfl) hN
      | false => rfl
    rw [he, this], hw⟩
end Go.Proofs.Qxb6617244a
