import Derived.Test.Qxb6617244aNum
namespace Go.Proofs.Qxb6617244a
open Go.RowKit

theorem law3_big (a : Option Addr) (len cap : Nat) (i base : Int) (w : World) (h : 1048576 < len) (hm : len ≤ maxLen) :
    Calls Try.prog 3 #[.slice a len cap, .int .i64 i, .int .i64 base] w fun e w' => e = .returned (.bool true) ∧ Below w.heap.size w w' := by
  unfold maxLen at hm
  have h' : (1048576 : Int) < (len : Int) := by omega
  go_enter Try.func3, Try.ntmps3
  go_wp2
  go_ret
  exact ⟨rfl, Below.refl _ _⟩

theorem law3_neg (a : Option Addr) (len cap : Nat) (i base : Int) (w : World) (h : len ≤ 1048576) (hi : i < 0) :
    Calls Try.prog 3 #[.slice a len cap, .int .i64 i, .int .i64 base] w fun e w' => e = .returned (.bool true) ∧ Below w.heap.size w w' := by
  have h' : ¬ (1048576 : Int) < (len : Int) := by omega
  go_enter Try.func3, Try.ntmps3
  go_wp2
  go_ret
  exact ⟨rfl, Below.refl _ _⟩

theorem law3_base (a : Option Addr) (len cap : Nat) (i base : Int) (w : World) (h : len ≤ 1048576) (hi : 0 ≤ i) (h10 : base ≠ 10) (h16 : base ≠ 16) :
    Calls Try.prog 3 #[.slice a len cap, .int .i64 i, .int .i64 base] w fun e w' => e = .returned (.bool true) ∧ Below w.heap.size w w' := by
  have h' : ¬ (1048576 : Int) < (len : Int) := by omega
  have e1 : (base != 10) = true := by simpa using h10
  have e2 : (base != 16) = true := by simpa using h16
  clear h10 h16
  go_enter Try.func3, Try.ntmps3
  go_wp2
  go_ret
  exact ⟨rfl, Below.refl _ _⟩

theorem law3_nil (i base : Int) (w : World) (hi : 0 ≤ i) (hb : base = 10 ∨ base = 16) :
    Calls Try.prog 3 #[.slice none 0 0, .int .i64 i, .int .i64 base] w fun e w' => e = .returned (.bool true) ∧ Below w.heap.size w w' := by
  have hnn := neq_nil_none
  rcases hb with rfl | rfl
  all_goals
    go_enter Try.func3, Try.ntmps3
    go_wp2_with (first | (go_at_call 10; refine (zzmant_ge _ _ _ _ _ _ (by simpa using hi)).mono ?_; rintro e w' ⟨rfl, rfl⟩) | go_in)
    go_ret
    exact ⟨ret_bool (by simp), Below.refl _ _⟩

set_option maxHeartbeats 1000000 in
theorem law3_ge (x : Addr) (len cap : Nat) (g : Nat → Int) (i base : Int) (w : World) (h : len ≤ 1048576) (hi : 0 ≤ i) (hb : base = 10 ∨ base = 16)
    (hc : ∀ k, k < len → w.cell? (x.add k) = some (.int .u8 (g k))) (hge : (len : Int) ≤ i) :
    Calls Try.prog 3 #[.slice (some x) len cap, .int .i64 i, .int .i64 base] w fun e w' => e = .returned (.bool true) ∧ Below w.heap.size w w' := by
  have hnn := neq_nil_some x len cap
  obtain ⟨i0, hi0, hz0, hz1, hz2⟩ := info_parts Try.info5
  have h' : ¬ (1048576 : Int) < (len : Int) := by omega
  rcases hb with rfl | rfl
  all_goals
    go_enter Try.func3, Try.ntmps3
    go_wp2_with (first | (at_make; refine wpList_make_full _ rfl _ _ 22 rfl w.heap.size 5 i0 (.int .u8 0) 1 Try.underlying22 hi0 hz0 hz1 _ _ _ _ len rfl rfl rfl rfl (by rw [hz2]; omega) (by unfold maxLen; omega) (Nat.le_refl _) ?_) | go_in)
    intro w1 hown hgrow
    have hb1 : Below w.heap.size w w1 := (Below.refl _ _).grown hgrow (Nat.le_refl _) (fun k e => by cases e)
    obtain ⟨w2, hcp, hb2, hsz2, hc2⟩ := copy_made w.heap.size w1 _ x len cap g hown (fun k hk => hgrow.cell (hc k hk) (by simp))
    clear hown hgrow hc
    go_wp2_with (first | (go_at_call 10; refine (zzmant_ge _ _ _ _ _ _ hge).mono ?_; rintro e w' ⟨rfl, rfl⟩))
    go_ret
    exact ⟨ret_bool (by simp), hb1.trans hb2⟩

set_option maxHeartbeats 1000000 in
theorem law3_lt (x : Addr) (len cap : Nat) (g : Nat → Int) (i : Nat) (base : Int) (w : World) (h : len ≤ 1048576) (hb : base = 10 ∨ base = 16) (hg : ∀ k, 0 ≤ g k ∧ g k ≤ 255)
    (hc : ∀ k, k < len → w.cell? (x.add k) = some (.int .u8 (g k))) (hlt : i < len) :
    Calls Try.prog 3 #[.slice (some x) len cap, .int .i64 i, .int .i64 base] w fun e w' => e = .returned (.bool true) ∧ Below w.heap.size w w' := by
  have hnn := neq_nil_some x len cap
  obtain ⟨i0, hi0, hz0, hz1, hz2⟩ := info_parts Try.info5
  have h' : ¬ (1048576 : Int) < (len : Int) := by omega
  have hd0 : decide (len ≤ i) = false := by simp; omega
  have e1 : ((base != 10) && (base != 16)) = false := by rcases hb with rfl | rfl <;> rfl
  rcases hb with rfl | rfl
  all_goals
    go_enter Try.func3, Try.ntmps3
    go_wp2_with (first | (at_make; refine wpList_make_full _ rfl _ _ 22 rfl w.heap.size 5 i0 (.int .u8 0) 1 Try.underlying22 hi0 hz0 hz1 _ _ _ _ len rfl rfl rfl rfl (by rw [hz2]; omega) (by unfold maxLen; omega) (Nat.le_refl _) ?_) | go_in)
    intro w1 hown hgrow
    have hb1 : Below w.heap.size w w1 := (Below.refl _ _).grown hgrow (Nat.le_refl _) (fun k e => by cases e)
    obtain ⟨w2, hcp, hb2, hsz2, hc2⟩ := copy_made w.heap.size w1 _ x len cap g hown (fun k hk => hgrow.cell (hc k hk) (by simp))
    have hbl := hb1.trans hb2
    clear hown hgrow hc hsz2 hb1 hb2
    go_wp2_with fail
    refine (zzmant_lt w.heap.size 0 len len g i _ w2 (by omega) hlt hg (fun k hk => by simpa using hc2 k hk)).mono ?_
    rintro e w' ⟨⟨n, D, Z, q, rfl, hn, hms, hst⟩, rfl⟩
    clear hcp hnn
    have hcells : ∀ k, k < n → w'.cell? ⟨w.heap.size, i + k, none⟩ = some (.int .u8 (g (i + k))) := fun k hk => hc2 (i + k) (by omega)
    have HN : Num g _ i n := ⟨hms.2.2.2.2, hms.2.2.2.1⟩
    have HD : Hid (D = dgs g i n) := hms.1
    have HZ : Hid (Z = nzs g i n) := hms.2.1
    have hDn := hms.Dle
    clear hms
    by_cases hend : i + n < len
    · have hNN := hst.notNum hend
      have hcells1 : ∀ k, k < n + 1 → w'.cell? ⟨w.heap.size, i + k, none⟩ = some (.int .u8 (g (i + k))) := fun k hk => hc2 (i + k) (by omega)
      clear hst
      go_wp2_with fail
      refine (numeral_true w.heap.size i n (len - i) g i _ w' (by omega) HN hcells).mono ?_
      rintro e w3 ⟨rfl, rfl⟩
      clear hcells HN
      go_wp2_with fail
      rw [show i + n + 1 - i = n + 1 by omega]
      refine (numeral_false w.heap.size i (n + 1) (len - i) g i _ w3 (by omega) hNN hcells1).mono ?_
      rintro e w4 ⟨rfl, rfl⟩
      clear hcells1 hNN
      go_wp2
      go_loop [11, 12, 13] (fun td tz tk => ∃ (m D' : Nat) (Z' : Bool), m ≤ n ∧ D' ≤ m ∧ tk = .int .i64 ((i + m : Nat) : Int) ∧ td = .int .i64 (D' : Int) ∧ tz = .bool Z' ∧ Hid (D' = dgs g i m) ∧ Hid (Z' = nzs g i m)) (fun _ _ tk => i + n - (intOf tk).toNat)
      case atStart => exact ⟨0, 0, false, by omega, by omega, rfl, rfl, rfl, rfl, rfl⟩
      case round =>
        obtain ⟨m, D', Z', hm, hD', rfl, rfl, rfl, HD', HZ'⟩ := hrel
        by_cases hmn : m < n
        · have hck := hc2 (i + m) (by omega)
          clear hc2
          by_cases h46 : g (i + m) = 46
          · have h46' : (g (i + m) != 46) = false := by simpa using h46
            have R1 : Hid (D' = dgs g i (m + 1)) := show D' = dgs g i (m + 1) by simp [dgs, h46, HD'.out]
            have R2 : Hid (Z' = nzs g i (m + 1)) := show Z' = nzs g i (m + 1) by simp [nzs, h46, HZ'.out]
            clear h46 HD' HZ'
            go_wp2
            go_round
            case rel => exact ⟨m + 1, D', Z', by omega, by omega, by go_num, rfl, rfl, R1, R2⟩
            case measure => simp [intOf]; omega
          · have h46' : (g (i + m) != 46) = true := by simpa using h46
            have R1 : Hid (D' + 1 = dgs g i (m + 1)) := show D' + 1 = dgs g i (m + 1) by simp [dgs, h46, HD'.out]
            by_cases h48 : g (i + m) = 48
            · have h48' : (g (i + m) != 48) = false := by simpa using h48
              have R2 : Hid (Z' = nzs g i (m + 1)) := show Z' = nzs g i (m + 1) by simp [nzs, h48, HZ'.out]
              clear h46 h48 HD' HZ'
              go_wp2
              go_round
              case rel => exact ⟨m + 1, D' + 1, Z', by omega, by omega, by go_num, by go_num, rfl, R1, R2⟩
              case measure => simp [intOf]; omega
            · have h48' : (g (i + m) != 48) = true := by simpa using h48
              have R2 : Hid (true = nzs g i (m + 1)) := show true = nzs g i (m + 1) by simp [nzs, h46, h48]
              clear h46 h48 HD' HZ'
              go_wp2
              go_round
              case rel => exact ⟨m + 1, D' + 1, true, by omega, by omega, by go_num, by go_num, rfl, R1, R2⟩
              case measure => simp [intOf]; omega
        · have hmn' : m = n := by omega
          subst hmn'
          have eD : D = D' := by rw [HD.out, HD'.out]
          have eZ : Z = Z' := by rw [HZ.out, HZ'.out]
          subst eD eZ
          clear hc2
          go_wp2
          go_ret
          exact ⟨ret_bool (by simp), hbl⟩
    · clear hst
      go_wp2_with fail
      refine (numeral_true w.heap.size i n (len - i) g i _ w' (by omega) HN hcells).mono ?_
      rintro e w3 ⟨rfl, rfl⟩
      clear hcells HN
      go_wp2
      go_loop [11, 12, 13] (fun td tz tk => ∃ (m D' : Nat) (Z' : Bool), m ≤ n ∧ D' ≤ m ∧ tk = .int .i64 ((i + m : Nat) : Int) ∧ td = .int .i64 (D' : Int) ∧ tz = .bool Z' ∧ Hid (D' = dgs g i m) ∧ Hid (Z' = nzs g i m)) (fun _ _ tk => i + n - (intOf tk).toNat)
      case atStart => exact ⟨0, 0, false, by omega, by omega, rfl, rfl, rfl, rfl, rfl⟩
      case round =>
        obtain ⟨m, D', Z', hm, hD', rfl, rfl, rfl, HD', HZ'⟩ := hrel
        by_cases hmn : m < n
        · have hck := hc2 (i + m) (by omega)
          clear hc2
          by_cases h46 : g (i + m) = 46
          · have h46' : (g (i + m) != 46) = false := by simpa using h46
            have R1 : Hid (D' = dgs g i (m + 1)) := show D' = dgs g i (m + 1) by simp [dgs, h46, HD'.out]
            have R2 : Hid (Z' = nzs g i (m + 1)) := show Z' = nzs g i (m + 1) by simp [nzs, h46, HZ'.out]
            clear h46 HD' HZ'
            go_wp2
            go_round
            case rel => exact ⟨m + 1, D', Z', by omega, by omega, by go_num, rfl, rfl, R1, R2⟩
            case measure => simp [intOf]; omega
          · have h46' : (g (i + m) != 46) = true := by simpa using h46
            have R1 : Hid (D' + 1 = dgs g i (m + 1)) := show D' + 1 = dgs g i (m + 1) by simp [dgs, h46, HD'.out]
            by_cases h48 : g (i + m) = 48
            · have h48' : (g (i + m) != 48) = false := by simpa using h48
              have R2 : Hid (Z' = nzs g i (m + 1)) := show Z' = nzs g i (m + 1) by simp [nzs, h48, HZ'.out]
              clear h46 h48 HD' HZ'
              go_wp2
              go_round
              case rel => exact ⟨m + 1, D' + 1, Z', by omega, by omega, by go_num, by go_num, rfl, R1, R2⟩
              case measure => simp [intOf]; omega
            · have h48' : (g (i + m) != 48) = true := by simpa using h48
              have R2 : Hid (true = nzs g i (m + 1)) := show true = nzs g i (m + 1) by simp [nzs, h46, h48]
              clear h46 h48 HD' HZ'
              go_wp2
              go_round
              case rel => exact ⟨m + 1, D' + 1, true, by omega, by omega, by go_num, by go_num, rfl, R1, R2⟩
              case measure => simp [intOf]; omega
        · have hmn' : m = n := by omega
          subst hmn'
          have eD : D = D' := by rw [HD.out, HD'.out]
          have eZ : Z = Z' := by rw [HZ.out, HZ'.out]
          subst eD eZ
          clear hc2
          go_wp2
          go_ret
          exact ⟨ret_bool (by simp), hbl⟩
end Go.Proofs.Qxb6617244a
