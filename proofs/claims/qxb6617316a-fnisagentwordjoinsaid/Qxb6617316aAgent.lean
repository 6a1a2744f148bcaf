import Derived.Test.Qxb6617316aRows
import Derived.Test.Qxb6617316aPlain
import Derived.WalkKit
import Derived.WalkSpells
import Derived.Laws.IdiomStrings
import Derived.Outline
namespace Go.Proofs.Qxb6617316a
open Go.RowKit

theorem ret_bool {a b : Bool} (h : a = b) : Ending.returned (.bool a) = .returned (.bool b) := by rw [h]

/-- []byte(s): the bytes lie in a new block. -/
theorem conv_bytes (w : World) (s : ByteArray) : ∃ w1 cap, (convert 9 25 (.string s)).run Try.prog w = .ok (.slice (some ⟨w.heap.size, 0, none⟩) s.size cap) w1 ∧ Below w.heap.size w w1 ∧
    ∀ j (hj : j < s.data.toList.length), w1.cell? ⟨w.heap.size, j, none⟩ = some (.int .u8 ((s.data.toList[j].toNat : Nat) : Int)) := by
  refine ⟨_, _, run_bytes_of_string (P := Try.prog) w 9 25 5 s Try.underlying9 Try.underlying25 Try.underlying5, ((Below.refl _ _).drew).alloc (Nat.le_refl _) _, fun j hj => ?_⟩
  have h1 := World.cell?_alloc_mark w.drew (bytesRow s (grownCap w s.size 0 5)) 5 ((bytesRow s (grownCap w s.size 0 5)).size, (bytesRow s (grownCap w s.size 0 5)).size + 1) j
  have h2 := bytesRow_at s (grownCap w s.size 0 5) j (by simpa using hj)
  rw [h2] at h1
  simpa using h1

theorem good_next {s : ByteArray} {k n : Nat} (h : ∀ q (hq : q < s.data.toList.length), q < k → agc s.data.toList[q].toNat = true) {hk : k < s.data.toList.length} (hn : n = s.data.toList[k].toNat) (hg : agc n = true) :
    ∀ q (hq : q < s.data.toList.length), q < k + 1 → agc s.data.toList[q].toNat = true := by
  intro q hq hlt
  by_cases e : q = k
  · subst e; rw [← hn]; exact hg
  · exact h q hq (by omega)

set_option maxHeartbeats 2000000 in
theorem agent_any (s : ByteArray) (w : World) (hs : s.size ≤ maxLen) :
    Calls Try.prog 7 #[.string s] w fun e w' => e = .returned (.bool (aw s.data.toList)) ∧ Below w.heap.size w w' := by
  unfold maxLen at hs
  have hsz : s.data.toList.length = s.size := rfl
  by_cases h0 : s.size = 0
  · rw [aw_short _ (hsz.trans h0)]
    have he : s.toList.isEmpty = true := by rw [ByteArray.toList_eq, List.isEmpty_iff]; exact List.eq_nil_of_length_eq_zero (hsz.trans h0)
    go_enter Try.func7, Try.ntmps7
    go_wp2
    go_ret
    exact ⟨rfl, Below.refl _ _⟩
  · have he : s.toList.isEmpty = false := by
      rw [ByteArray.toList_eq, List.isEmpty_eq_false_iff]
      intro e
      rw [e] at hsz
      exact h0 hsz.symm
    by_cases h64 : 64 < s.size
    · rw [aw_long _ (by omega)]
      have h65 : (64 : Int) < (s.size : Int) := by omega
      go_enter Try.func7, Try.ntmps7
      go_wp2
      go_ret
      exact ⟨rfl, Below.refl _ _⟩
    · have h65 : ¬ (64 : Int) < (s.size : Int) := by omega
      obtain ⟨w1, cap, hconv, hb, hcell⟩ := conv_bytes w s
      go_enter Try.func7, Try.ntmps7
      go_wp2
      go_loop [15] (fun t => ∃ k : Nat, k ≤ s.size ∧ t = .int .i64 (k : Int) ∧ Hid (∀ q (hq : q < s.data.toList.length), q < k → agc s.data.toList[q].toNat = true)) (fun t => s.size - (intOf t).toNat)
      case atStart => exact ⟨0, by omega, rfl, show ∀ q (hq : q < s.data.toList.length), q < 0 → agc s.data.toList[q].toNat = true from fun q _ h => absurd h (Nat.not_lt_zero _)⟩
      case round =>
        obtain ⟨k, hk, rfl, HA⟩ := hrel
        by_cases hlt : k < s.size
        · have hc := hcell k (by omega)
          obtain ⟨n, hn⟩ : ∃ n, n = s.data.toList[k].toNat := ⟨_, rfl⟩
          have hn8 : n < 256 := by rw [hn]; exact UInt8.toNat_lt _
          rw [← hn] at hc
          have HN : Hid (n = s.data.toList[k].toNat) := hn
          clear hcell hconv
          rcases (show n < 48 ∨ (48 ≤ n ∧ n ≤ 57) ∨ (57 < n ∧ n < 95) ∨ n = 95 ∨ (95 < n ∧ n < 97) ∨ (97 ≤ n ∧ n ≤ 122) ∨ 122 < n by omega) with hj | hj | hj | hj | hj | hj | hj
          · have e1 : ¬ (97 : Int) ≤ (n : Int) := by omega
            have e2 : ¬ (48 : Int) ≤ (n : Int) := by omega
            have e3 : ((n : Int) == 95) = false := by simp; omega
            have R : Hid (aw s.data.toList = false) := aw_bad _ k (by omega) (by rw [← hn]; exact agc_neg (by omega))
            clear HA hn hj
            go_wp2
            go_ret
            exact ⟨ret_bool R.out.symm, hb⟩
          · have e1 : ¬ (97 : Int) ≤ (n : Int) := by omega
            have e2 : (48 : Int) ≤ (n : Int) := by omega
            have e3 : (n : Int) ≤ 57 := by omega
            have R : Hid (∀ q (hq : q < s.data.toList.length), q < k + 1 → agc s.data.toList[q].toNat = true) := good_next HA.out hn (agc_pos (by omega))
            clear HA hn hj
            go_wp2
            go_round
            case rel => exact ⟨k + 1, by omega, by go_num, R⟩
            case measure => simp [intOf]; omega
          · have e1 : ¬ (97 : Int) ≤ (n : Int) := by omega
            have e2 : (48 : Int) ≤ (n : Int) := by omega
            have e4 : ¬ (n : Int) ≤ 57 := by omega
            have e3 : ((n : Int) == 95) = false := by simp; omega
            have R : Hid (aw s.data.toList = false) := aw_bad _ k (by omega) (by rw [← hn]; exact agc_neg (by omega))
            clear HA hn hj
            go_wp2
            go_ret
            exact ⟨ret_bool R.out.symm, hb⟩
          · have e1 : ¬ (97 : Int) ≤ (n : Int) := by omega
            have e2 : (48 : Int) ≤ (n : Int) := by omega
            have e4 : ¬ (n : Int) ≤ 57 := by omega
            have e3 : ((n : Int) == 95) = true := by simp; omega
            have R : Hid (∀ q (hq : q < s.data.toList.length), q < k + 1 → agc s.data.toList[q].toNat = true) := good_next HA.out hn (agc_pos (by omega))
            clear HA hn hj
            go_wp2
            go_round
            case rel => exact ⟨k + 1, by omega, by go_num, R⟩
            case measure => simp [intOf]; omega
          · have e1 : ¬ (97 : Int) ≤ (n : Int) := by omega
            have e2 : (48 : Int) ≤ (n : Int) := by omega
            have e4 : ¬ (n : Int) ≤ 57 := by omega
            have e3 : ((n : Int) == 95) = false := by simp; omega
            have R : Hid (aw s.data.toList = false) := aw_bad _ k (by omega) (by rw [← hn]; exact agc_neg (by omega))
            clear HA hn hj
            go_wp2
            go_ret
            exact ⟨ret_bool R.out.symm, hb⟩
          · have e1 : (97 : Int) ≤ (n : Int) := by omega
            have e2 : (n : Int) ≤ 122 := by omega
            have R : Hid (∀ q (hq : q < s.data.toList.length), q < k + 1 → agc s.data.toList[q].toNat = true) := good_next HA.out hn (agc_pos (by omega))
            clear HA hn hj
            go_wp2
            go_round
            case rel => exact ⟨k + 1, by omega, by go_num, R⟩
            case measure => simp [intOf]; omega
          · have e1 : (97 : Int) ≤ (n : Int) := by omega
            have e5 : ¬ (n : Int) ≤ 122 := by omega
            have e2 : (48 : Int) ≤ (n : Int) := by omega
            have e4 : ¬ (n : Int) ≤ 57 := by omega
            have e3 : ((n : Int) == 95) = false := by simp; omega
            have R : Hid (aw s.data.toList = false) := aw_bad _ k (by omega) (by rw [← hn]; exact agc_neg (by omega))
            clear HA hn hj
            go_wp2
            go_ret
            exact ⟨ret_bool R.out.symm, hb⟩
        · have R : Hid (aw s.data.toList = true) := aw_good _ (by omega) (by omega) (fun q hq => HA.out q hq (by omega))
          clear hcell hconv HA
          go_wp2
          go_ret
          exact ⟨ret_bool R.out.symm, hb⟩

theorem zzAgent_any (s : ByteArray) (w : World) (hs : s.size ≤ maxLen) :
    Calls Try.prog 5 #[.string s] w fun e w' => e = .returned (.bool (aw s.data.toList)) ∧ Below w.heap.size w w' := by
  go_enter Try.func5, Try.ntmps5
  go_wp2_with fail
  refine (agent_any s w hs).mono ?_
  rintro e w1 ⟨rfl, hb⟩
  go_wp2
  go_ret
  exact ⟨rfl, hb⟩
end Go.Proofs.Qxb6617316a
