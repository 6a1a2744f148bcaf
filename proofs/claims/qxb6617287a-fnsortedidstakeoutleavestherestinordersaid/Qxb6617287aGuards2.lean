import Derived.Test.Qxb6617287aGuards
namespace Go.Proofs.Qxb6617287a
open Go.RowKit

set_option maxHeartbeats 1000000 in
theorem zzb13_some (b off n cap : Nat) (A : Nat → Option Addr) (L C IB JO : Nat → Nat) (S : Nat → Nat → ByteArray) (x y : Int) (w : World) (hn : n ≤ maxLen) (hR : RunsW w b off n A L C IB JO S) :
    Calls Try.prog 13 #[.slice (some ⟨b, off, none⟩) n cap, .int .i64 x, .int .i64 y] w fun e w' => BoolE e ∧ w' = w := by
  unfold maxLen at hn
  by_cases hbig : 1048576 < n
  · have h' : (1048576 : Int) < (n : Int) := by omega
    go_enter Try.func13, Try.ntmps13
    go_wp2
    go_ret
    exact ⟨⟨_, rfl⟩, rfl⟩
  · have h' : ¬ (1048576 : Int) < (n : Int) := by omega
    go_enter Try.func13, Try.ntmps13
    go_wp2
    go_loop [7, 8] (fun tz ti => ∃ (z : Int) (r : Nat), r ≤ n ∧ ti = .int .i64 (r : Int) ∧ tz = .int .i64 z ∧ 0 ≤ z ∧ z ≤ 1048576) (fun _ ti => n - (intOf ti).toNat)
    case atStart => exact ⟨_, 0, by omega, rfl, rfl, by omega, by omega⟩
    case round =>
      obtain ⟨z, r, hr, rfl, rfl, hz0, hz1⟩ := hrel
      by_cases hlt : r < n
      · obtain ⟨hc, hL, hA, hS⟩ := hR r hlt
        clear hR
        unfold maxLen at hL
        by_cases hL1 : 1048576 < L r
        · have hL2 : (1048576 : Int) < (L r : Int) := by omega
          clear hS hA
          go_wp2
          go_ret
          exact ⟨⟨_, rfl⟩, rfl⟩
        · have hL2 : ¬ (1048576 : Int) < (L r : Int) := by omega
          by_cases hz2 : 1048576 < z + L r
          · clear hS hA
            go_wp2
            go_ret
            exact ⟨⟨_, rfl⟩, rfl⟩
          · go_wp2
            go_loop [7, 9] (fun tz tj => ∃ (z : Int) (j : Nat), j ≤ L r ∧ tj = .int .i64 (j : Int) ∧ tz = .int .i64 z ∧ 0 ≤ z ∧ z ≤ 1048576) (fun _ tj => L r - (intOf tj).toNat)
            case atStart => exact ⟨_, 0, by omega, rfl, rfl, by omega, by omega⟩
            case round =>
              obtain ⟨y, j, hj, rfl, rfl, hy0, hy1⟩ := hrel
              by_cases hjl : j < L r
              · have hA' := hA (by omega)
                obtain ⟨hs, hsz⟩ := hS j hjl
                clear hS hA
                rw [hA'] at hc
                unfold maxLen at hsz
                go_wp2
                · go_ret
                  exact ⟨⟨_, rfl⟩, rfl⟩
                · go_ret
                  exact ⟨⟨_, rfl⟩, rfl⟩
                · go_round
                  case rel => exact ⟨_, j + 1, by omega, by go_num, rfl, by omega, by omega⟩
                  case measure => simp [intOf]; omega
              · clear hS hA
                go_wp2
                go_round
                case rel => exact ⟨_, r + 1, by omega, by go_num, rfl, by omega, by omega⟩
                case measure => simp [intOf]; omega
      · clear hR
        go_wp2
        all_goals
          go_ret
          exact ⟨⟨_, rfl⟩, rfl⟩

theorem zzb13_zero (a : Option Addr) (cap : Nat) (x y : Int) (w : World) :
    Calls Try.prog 13 #[.slice a 0 cap, .int .i64 x, .int .i64 y] w fun e w' => BoolE e ∧ w' = w := by
  go_enter Try.func13, Try.ntmps13
  go_wp2
  refine wp_loop_rounds 1 ?_
  rw [rounds_succ]
  go_wp2
  all_goals
    go_ret
    exact ⟨⟨_, rfl⟩, rfl⟩

end Go.Proofs.Qxb6617287a
