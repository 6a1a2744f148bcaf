import Derived.Test.Qxb6617244aLeaf
import Derived.Test.Qxb6617244aMantPlain
import Derived.Outline
namespace Go.Proofs.Qxb6617244a
open Go.RowKit

theorem ret_mant {a b c d : Int} {p q : Bool} (h1 : a = c) (h2 : b = d) (h3 : p = q) : Ending.returned (.tuple #[.int .i64 a, .int .i64 b, .bool p]) = .returned (.tuple #[.int .i64 c, .int .i64 d, .bool q]) := by rw [h1, h2, h3]

/-- What mantissa answers at i. -/
def MantE (g : Nat → Int) (base : Int) (len i : Nat) (e : Ending) : Prop :=
  ∃ (n D : Nat) (Z q : Bool), e = .returned (.tuple #[.int .i64 (D : Int), .int .i64 ((i + n : Nat) : Int), .bool Z]) ∧ i + n ≤ len ∧ MS g base i n D Z q ∧ Stop g base len i n

theorem mant_ge (a : Option Addr) (len cap : Nat) (i base : Int) (w : World) (hi : (len : Int) ≤ i) :
    Calls Try.prog 24 #[.slice a len cap, .int .i64 i, .int .i64 base] w fun e w' => e = .returned (.tuple #[.int .i64 0, .int .i64 i, .bool false]) ∧ w' = w := by
  go_enter Try.func24, Try.ntmps24
  go_wp2
  refine wp_loop_rounds 1 ?_
  rw [rounds_succ]
  go_wp2
  go_ret3
  exact ⟨rfl, rfl⟩

set_option maxHeartbeats 1000000 in
theorem mant_lt (b off len cap : Nat) (g : Nat → Int) (i : Nat) (base : Int) (w : World) (hlen : len ≤ 1000000000000) (hi : i < len) (hg : ∀ k, 0 ≤ g k ∧ g k ≤ 255)
    (hc : ∀ k, k < len → w.cell? ⟨b, off + k, none⟩ = some (.int .u8 (g k))) :
    Calls Try.prog 24 #[.slice (some ⟨b, off, none⟩) len cap, .int .i64 i, .int .i64 base] w fun e w' =>
      MantE g base len i e ∧ w' = w := by
  go_enter Try.func24, Try.ntmps24
  go_wp2
  go_loop [1, 6, 8, 9] (fun ti td tz tp => ∃ (n D : Nat) (Z q : Bool), i + n ≤ len ∧ ti = .int .i64 ((i + n : Nat) : Int) ∧ td = .int .i64 (D : Int) ∧ tz = .bool Z ∧ tp = .bool q ∧ MS g base i n D Z q) (fun ti _ _ _ => len - (intOf ti).toNat)
  case atStart => exact ⟨0, 0, false, false, by omega, rfl, rfl, rfl, rfl, MS.zero g base i⟩
  case round =>
    obtain ⟨n, D, Z, q, hn, rfl, rfl, rfl, rfl, hms⟩ := hrel
    have hD0 := hms.Dle
    have hD : D ≤ i + n := by omega
    clear hD0
    obtain ⟨m, hm⟩ : ∃ m, m = i + n := ⟨_, rfl⟩
    by_cases hlt : i + n < len
    · have hck := hc (i + n) hlt
      obtain ⟨g0, g1⟩ := hg (i + n)
      rw [← hm] at hck g0 g1 hlt hn hD ⊢
      clear hc hg
      have HM : Hid (m = i + n) := hm
      clear hm
      by_cases h46 : g m = 46
      · cases q with
        | false =>
          have h46' : (g m == 46) = true := by simpa using h46
          clear h46
          go_wp2_with (go_at_call 27; refine (isDigit_any _ _ _ (by assumption) (by assumption)).mono ?_; rintro e w' ⟨rfl, rfl⟩)
          go_round
          case rel => exact ⟨n + 1, D, Z, true, by have := HM.out; omega, by have := HM.out; go_num, rfl, rfl, rfl, hms.point (by rw [← HM.out]; simpa using h46')⟩
          case measure => simp [intOf]; omega
        | true =>
          have h46' : (g m == 46) = true := by simpa using h46
          have hdg : digB (g m) base = false := by rw [h46]; exact dig46 base
          clear h46
          go_wp2_with (go_at_call 27; refine (isDigit_any _ _ _ (by assumption) (by assumption)).mono ?_; rintro e w' ⟨rfl, rfl⟩)
          go_ret3
          exact ⟨⟨n, D, Z, true, ret_mant rfl (by have := HM.out; omega) rfl, by have := HM.out; omega, hms, hms.stop_point (by rw [← HM.out]; simpa using h46') (by have := HM.out; omega)⟩, rfl⟩
      · have h46' : (g m == 46) = false := by simpa using h46
        clear h46
        by_cases hdg : digB (g m) base = true
        · have R := hms.digit (by rw [← HM.out]; exact hdg)
          rw [← HM.out] at R
          cases Z with
          | true =>
            go_wp2_with (go_at_call 27; refine (isDigit_any _ _ _ (by assumption) (by assumption)).mono ?_; rintro e w' ⟨rfl, rfl⟩)
            go_round
            case rel => exact ⟨n + 1, D + 1, true, q, by have := HM.out; omega, by have := HM.out; go_num, by go_num, rfl, rfl, by simpa using R⟩
            case measure => simp [intOf]; omega
          | false =>
            go_wp2_with (go_at_call 27; refine (isDigit_any _ _ _ (by assumption) (by assumption)).mono ?_; rintro e w' ⟨rfl, rfl⟩)
            go_round
            case rel => exact ⟨n + 1, D + 1, (g m != 48), q, by have := HM.out; omega, by have := HM.out; go_num, by go_num, rfl, rfl, by simpa using R⟩
            case measure => simp [intOf]; omega
        · have hdg' : digB (g m) base = false := by simpa using hdg
          clear hdg
          go_wp2_with (go_at_call 27; refine (isDigit_any _ _ _ (by assumption) (by assumption)).mono ?_; rintro e w' ⟨rfl, rfl⟩)
          go_ret3
          exact ⟨⟨n, D, Z, q, ret_mant rfl (by have := HM.out; omega) rfl, by have := HM.out; omega, hms, Or.inr ⟨by have := HM.out; omega, by rw [← HM.out]; exact hdg', fun e => by rw [← HM.out] at e; simp [e] at h46'⟩⟩, rfl⟩
    · clear hc hg
      have hge : i + n = len := by omega
      have HE : Hid (i + n = len) := hge
      clear hge
      go_wp2
      go_ret3
      exact ⟨⟨n, D, Z, q, ret_mant rfl (by omega) rfl, hn, hms, Or.inl HE.out⟩, rfl⟩
end Go.Proofs.Qxb6617244a
