import Derived.Test.Qxb6617287aRows
import Derived.Test.Qxb6617287aPlain
import Derived.WalkKit
import Derived.WalkSpells
import Derived.Outline
namespace Go.Proofs.Qxb6617287a
open Go.RowKit

theorem ret_bool {a b : Bool} (h : a = b) : Ending.returned (.bool a) = .returned (.bool b) := by rw [h]

/-- What a walk is told of runs: row r lies in cell off + r; its strings lie at IB r, JO r. -/
def RunsW (w : World) (b off n : Nat) (A : Nat → Option Addr) (L C IB JO : Nat → Nat) (S : Nat → Nat → ByteArray) : Prop :=
  ∀ r, r < n → w.cell? ⟨b, off + r, none⟩ = some (.slice (A r) (L r) (C r)) ∧ L r ≤ maxLen ∧ (0 < L r → A r = some ⟨IB r, JO r, none⟩) ∧ ∀ j, j < L r → w.cell? ⟨IB r, JO r + j, none⟩ = some (.string (S r j)) ∧ (S r j).size ≤ maxLen

theorem RunsW.below {w w' : World} {b off n : Nat} {A : Nat → Option Addr} {L C IB JO : Nat → Nat} {S : Nat → Nat → ByteArray} (h : RunsW w b off n A L C IB JO S) (hb : Below w.heap.size w w') : RunsW w' b off n A L C IB JO S := by
  intro r hr
  obtain ⟨h1, h2, h3, h4⟩ := h r hr
  refine ⟨?_, h2, h3, fun j hj => ?_⟩
  · rw [hb.cell (World.block_lt_of_cell? _ _ h1)]; exact h1
  · obtain ⟨h5, h6⟩ := h4 j hj
    rw [hb.cell (World.block_lt_of_cell? _ _ h5)]; exact ⟨h5, h6⟩

def BoolE (e : Ending) : Prop := ∃ q : Bool, e = .returned (.bool q)

set_option maxHeartbeats 1000000 in
theorem zzb5_some (b off n cap : Nat) (A : Nat → Option Addr) (L C IB JO : Nat → Nat) (S : Nat → Nat → ByteArray) (a1 : Option Addr) (m c1 : Nat) (w : World) (hn : n ≤ maxLen) (hm : m ≤ maxLen) (hR : RunsW w b off n A L C IB JO S) :
    Calls Try.prog 5 #[.slice (some ⟨b, off, none⟩) n cap, .slice a1 m c1] w fun e w' => BoolE e ∧ w' = w := by
  unfold maxLen at hn hm
  by_cases hbig : 1048576 < n
  · have h' : (1048576 : Int) < (n : Int) := by omega
    go_enter Try.func5, Try.ntmps5
    go_wp2
    go_ret
    exact ⟨⟨_, rfl⟩, rfl⟩
  · have h' : ¬ (1048576 : Int) < (n : Int) := by omega
    go_enter Try.func5, Try.ntmps5
    go_wp2
    go_loop [5, 6] (fun tz ti => ∃ (z : Int) (r : Nat), r ≤ n ∧ ti = .int .i64 (r : Int) ∧ tz = .int .i64 z ∧ 0 ≤ z ∧ z ≤ 1048576) (fun _ ti => n - (intOf ti).toNat)
    case atStart => exact ⟨_, 0, by omega, rfl, rfl, by omega, by omega⟩
    case round =>
      obtain ⟨z, r, hr, rfl, rfl, hz0, hz1⟩ := hrel
      by_cases hlt : r < n
      · obtain ⟨hc, hL, hA, hS⟩ := hR r hlt
        clear hR
        unfold maxLen at hL
        by_cases hL1 : 1048576 < L r
        · have hL2 : (1048576 : Int) < (L r : Int) := by omega
          clear hS hA
          go_wp2
          go_ret
          exact ⟨⟨_, rfl⟩, rfl⟩
        · have hL2 : ¬ (1048576 : Int) < (L r : Int) := by omega
          by_cases hz2 : 1048576 < z + L r
          · clear hS hA
            go_wp2
            go_ret
            exact ⟨⟨_, rfl⟩, rfl⟩
          · go_wp2
            go_loop [5, 7] (fun tz tj => ∃ (z : Int) (j : Nat), j ≤ L r ∧ tj = .int .i64 (j : Int) ∧ tz = .int .i64 z ∧ 0 ≤ z ∧ z ≤ 1048576) (fun _ tj => L r - (intOf tj).toNat)
            case atStart => exact ⟨_, 0, by omega, rfl, rfl, by omega, by omega⟩
            case round =>
              obtain ⟨y, j, hj, rfl, rfl, hy0, hy1⟩ := hrel
              by_cases hjl : j < L r
              · have hA' := hA (by omega)
                obtain ⟨hs, hsz⟩ := hS j hjl
                clear hS hA
                rw [hA'] at hc
                unfold maxLen at hsz
                go_wp2
                · go_ret
                  exact ⟨⟨_, rfl⟩, rfl⟩
                · go_ret
                  exact ⟨⟨_, rfl⟩, rfl⟩
                · go_round
                  case rel => exact ⟨_, j + 1, by omega, by go_num, rfl, by omega, by omega⟩
                  case measure => simp [intOf]; omega
              · clear hS hA
                go_wp2
                go_round
                case rel => exact ⟨_, r + 1, by omega, by go_num, rfl, by omega, by omega⟩
                case measure => simp [intOf]; omega
      · clear hR
        go_wp2
        all_goals
          go_ret
          exact ⟨⟨_, rfl⟩, rfl⟩

theorem zzb5_zero (a : Option Addr) (cap : Nat) (a1 : Option Addr) (m c1 : Nat) (w : World) (hm : m ≤ maxLen) :
    Calls Try.prog 5 #[.slice a 0 cap, .slice a1 m c1] w fun e w' => BoolE e ∧ w' = w := by
  unfold maxLen at hm
  go_enter Try.func5, Try.ntmps5
  go_wp2
  refine wp_loop_rounds 1 ?_
  rw [rounds_succ]
  go_wp2
  all_goals
    go_ret
    exact ⟨⟨_, rfl⟩, rfl⟩

def TooE (L : Nat → Nat) (n : Nat) (e : Ending) : Prop := ∃ q : Bool, e = .returned (.bool q) ∧ (q = false → n ≤ 65536 ∧ 16 * sumL L n ≤ 1048576)

set_option maxHeartbeats 1000000 in
theorem tooBig_some (b off n cap : Nat) (A : Nat → Option Addr) (L C IB JO : Nat → Nat) (S : Nat → Nat → ByteArray) (x : Int) (w : World) (hn : n ≤ maxLen) (hR : RunsW w b off n A L C IB JO S) :
    Calls Try.prog 6 #[.slice none 0 0, .slice (some ⟨b, off, none⟩) n cap, .int .i64 x] w fun e w' => TooE L n e ∧ w' = w := by
  unfold maxLen at hn
  by_cases hx0 : x < 0
  · go_enter Try.func6, Try.ntmps6
    go_wp2
    go_ret
    exact ⟨⟨true, rfl, fun h => by cases h⟩, rfl⟩
  have hd0 : decide (x < 0) = false := by simpa using hx0
  by_cases hx1 : 1048576 < x
  · go_enter Try.func6, Try.ntmps6
    go_wp2
    go_ret
    exact ⟨⟨true, rfl, fun h => by cases h⟩, rfl⟩
  by_cases hn1 : 65536 < n
  · have hn2 : (65536 : Int) < (n : Int) := by omega
    go_enter Try.func6, Try.ntmps6
    go_wp2
    go_ret
    exact ⟨⟨true, rfl, fun h => by cases h⟩, rfl⟩
  have hn2 : ¬ (65536 : Int) < (n : Int) := by omega
  by_cases ht : 1048576 < x + 24 * (n : Int)
  · go_enter Try.func6, Try.ntmps6
    go_wp2
    go_ret
    exact ⟨⟨true, rfl, fun h => by cases h⟩, rfl⟩
  go_enter Try.func6, Try.ntmps6
  go_wp2
  refine wp_loop_rounds 1 ?_
  rw [rounds_succ]
  go_wp2
  go_loop [7, 9] (fun tz ti => ∃ (z : Int) (r : Nat), r ≤ n ∧ ti = .int .i64 (r : Int) ∧ tz = .int .i64 z ∧ 16 * (sumL L r : Int) ≤ z ∧ z ≤ 1048576) (fun _ ti => n - (intOf ti).toNat)
  case atStart => exact ⟨_, 0, by omega, rfl, rfl, by simp [sumL]; omega, by omega⟩
  case round =>
    obtain ⟨z, r, hr, rfl, rfl, hz0, hz1⟩ := hrel
    by_cases hlt : r < n
    · obtain ⟨hc, hL, hA, hS⟩ := hR r hlt
      clear hR
      unfold maxLen at hL
      by_cases hL1 : 65536 < L r
      · have hL2 : (65536 : Int) < (L r : Int) := by omega
        clear hS hA
        go_wp2
        go_ret
        exact ⟨⟨true, rfl, fun h => by cases h⟩, rfl⟩
      · have hL2 : ¬ (65536 : Int) < (L r : Int) := by omega
        have hz00 : 0 ≤ z := by omega
        by_cases hz2 : 1048576 < z + 16 * (L r : Int)
        · clear hS hA
          go_wp2
          go_ret
          exact ⟨⟨true, rfl, fun h => by cases h⟩, rfl⟩
        · have hs1 : 16 * (sumL L (r + 1) : Int) ≤ z + 16 * (L r : Int) := by simp only [sumL]; omega
          clear hz0
          go_wp2
          go_loop [7, 10] (fun tz tj => ∃ (z : Int) (j : Nat), j ≤ L r ∧ tj = .int .i64 (j : Int) ∧ tz = .int .i64 z ∧ 16 * (sumL L (r + 1) : Int) ≤ z ∧ z ≤ 1048576) (fun _ tj => L r - (intOf tj).toNat)
          case atStart => exact ⟨_, 0, by omega, rfl, rfl, by omega, by omega⟩
          case round =>
            obtain ⟨y, j, hj, rfl, rfl, hy0, hy1⟩ := hrel
            have hy00 : 0 ≤ y := by omega
            by_cases hjl : j < L r
            · have hA' := hA (by omega)
              obtain ⟨hs, hsz⟩ := hS j hjl
              clear hS hA
              rw [hA'] at hc
              unfold maxLen at hsz
              go_wp2
              · go_ret
                exact ⟨⟨true, rfl, fun h => by cases h⟩, rfl⟩
              · go_ret
                exact ⟨⟨true, rfl, fun h => by cases h⟩, rfl⟩
              · go_round
                case rel => exact ⟨_, j + 1, by omega, by go_num, rfl, by omega, by omega⟩
                case measure => simp [intOf]; omega
            · clear hS hA
              go_wp2
              go_round
              case rel => exact ⟨_, r + 1, by omega, by go_num, rfl, by omega, by omega⟩
              case measure => simp [intOf]; omega
    · clear hR
      have hrn : r = n := by omega
      subst hrn
      go_wp2
      go_ret
      exact ⟨⟨false, rfl, fun _ => ⟨by omega, by omega⟩⟩, rfl⟩

theorem tooBig_zero (a : Option Addr) (cap : Nat) (x : Int) (w : World) :
    Calls Try.prog 6 #[.slice none 0 0, .slice a 0 cap, .int .i64 x] w fun e w' => BoolE e ∧ w' = w := by
  by_cases hx0 : x < 0
  · go_enter Try.func6, Try.ntmps6
    go_wp2
    go_ret
    exact ⟨⟨_, rfl⟩, rfl⟩
  have hd0 : decide (x < 0) = false := by simpa using hx0
  by_cases hx1 : 1048576 < x
  · go_enter Try.func6, Try.ntmps6
    go_wp2
    go_ret
    exact ⟨⟨_, rfl⟩, rfl⟩
  go_enter Try.func6, Try.ntmps6
  go_wp2
  refine wp_loop_rounds 1 ?_
  rw [rounds_succ]
  go_wp2
  refine wp_loop_rounds 1 ?_
  rw [rounds_succ]
  go_wp2
  go_ret
  exact ⟨⟨_, rfl⟩, rfl⟩

def NoEmptyE (L : Nat → Nat) (n : Nat) (e : Ending) : Prop := ∃ q : Bool, e = .returned (.bool q) ∧ (q = true → ∀ r, r < n → 0 < L r)

theorem noEmpty_some (b off n cap : Nat) (A : Nat → Option Addr) (L C IB JO : Nat → Nat) (S : Nat → Nat → ByteArray) (w : World) (hn : n ≤ maxLen) (hR : RunsW w b off n A L C IB JO S) :
    Calls Try.prog 7 #[.slice (some ⟨b, off, none⟩) n cap] w fun e w' => NoEmptyE L n e ∧ w' = w := by
  unfold maxLen at hn
  go_enter Try.func7, Try.ntmps7
  go_wp2
  go_loop [3] (fun ti => ∃ (r : Nat), r ≤ n ∧ ti = .int .i64 (r : Int) ∧ Hid (∀ q, q < r → 0 < L q)) (fun ti => n - (intOf ti).toNat)
  case atStart => exact ⟨0, by omega, rfl, show ∀ q, q < 0 → 0 < L q from fun q h => by omega⟩
  case round =>
    obtain ⟨r, hr, rfl, HL⟩ := hrel
    by_cases hlt : r < n
    · obtain ⟨hc, hL, hA, hS⟩ := hR r hlt
      unfold maxLen at hL
      clear hR hS hA
      by_cases hl0 : L r = 0
      · have hl1 : ((L r : Int) == 0) = true := by simp; omega
        go_wp2
        go_ret
        exact ⟨⟨false, rfl, fun h => by cases h⟩, rfl⟩
      · have hl1 : ((L r : Int) == 0) = false := by simp; omega
        have R : Hid (∀ q, q < r + 1 → 0 < L q) := show ∀ q, q < r + 1 → 0 < L q from fun q h => by
          by_cases e : q = r
          · rw [e]; omega
          · exact HL.out q (by omega)
        clear HL hl0
        go_wp2
        go_round
        case rel => exact ⟨r + 1, by omega, by go_num, R⟩
        case measure => simp [intOf]; omega
    · clear hR
      have hrn : r = n := by omega
      subst hrn
      go_wp2
      go_ret
      exact ⟨⟨true, rfl, fun _ => HL.out⟩, rfl⟩

theorem noEmpty_zero (a : Option Addr) (cap : Nat) (w : World) :
    Calls Try.prog 7 #[.slice a 0 cap] w fun e w' => e = .returned (.bool true) ∧ w' = w := by
  go_enter Try.func7, Try.ntmps7
  go_wp2
  refine wp_loop_rounds 1 ?_
  rw [rounds_succ]
  go_wp2
  go_ret
  exact ⟨rfl, rfl⟩
end Go.Proofs.Qxb6617287a
