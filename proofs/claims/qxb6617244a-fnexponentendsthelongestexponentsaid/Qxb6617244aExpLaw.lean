import Derived.Test.Qxb6617244aIsExp
namespace Go.Proofs.Qxb6617244a
open Go.RowKit

theorem law5_big (a : Option Addr) (len cap : Nat) (i m : Int) (w : World) (h : 1048576 < len) (hm : len ≤ maxLen) :
    Calls Try.prog 5 #[.slice a len cap, .int .i64 i, .int .u8 m] w fun e w' => e = .returned (.bool true) ∧ Below w.heap.size w w' := by
  unfold maxLen at hm
  have h' : (1048576 : Int) < (len : Int) := by omega
  go_enter Try.func5, Try.ntmps5
  go_wp2
  go_ret
  exact ⟨rfl, Below.refl _ _⟩

theorem law5_neg (a : Option Addr) (len cap : Nat) (i m : Int) (w : World) (h : len ≤ 1048576) (hi : i < 0) :
    Calls Try.prog 5 #[.slice a len cap, .int .i64 i, .int .u8 m] w fun e w' => e = .returned (.bool true) ∧ Below w.heap.size w w' := by
  have h' : ¬ (1048576 : Int) < (len : Int) := by omega
  go_enter Try.func5, Try.ntmps5
  go_wp2
  go_ret
  exact ⟨rfl, Below.refl _ _⟩

theorem law5_mark (a : Option Addr) (len cap : Nat) (i m : Int) (w : World) (h : len ≤ 1048576) (hi : 0 ≤ i) (hm : m < 97 ∨ 122 < m) :
    Calls Try.prog 5 #[.slice a len cap, .int .i64 i, .int .u8 m] w fun e w' => e = .returned (.bool true) ∧ Below w.heap.size w w' := by
  have h' : ¬ (1048576 : Int) < (len : Int) := by omega
  rcases hm with hm | hm
  · go_enter Try.func5, Try.ntmps5
    go_wp2
    go_ret
    exact ⟨rfl, Below.refl _ _⟩
  · have hm' : decide (m < 97) = false := by simp; omega
    go_enter Try.func5, Try.ntmps5
    go_wp2
    go_ret
    exact ⟨rfl, Below.refl _ _⟩

theorem law5_nil (i m : Int) (w : World) (hi : 0 ≤ i) (h97 : 97 ≤ m) (h122 : m ≤ 122) :
    Calls Try.prog 5 #[.slice none 0 0, .int .i64 i, .int .u8 m] w fun e w' => e = .returned (.bool true) ∧ Below w.heap.size w w' := by
  have hnn := neq_nil_none
  have hm' : decide (m < 97) = false := by simp; omega
  go_enter Try.func5, Try.ntmps5
  go_wp2_with (first | (go_at_call 16; refine (zzexp_ge _ _ _ _ _ _ (by simpa using hi)).mono ?_; rintro e w' ⟨rfl, rfl⟩) | go_in)
  go_ret
  exact ⟨ret_bool (by simp), Below.refl _ _⟩

set_option maxHeartbeats 1000000 in
theorem law5_ge (x : Addr) (len cap : Nat) (g : Nat → Int) (i m : Int) (w : World) (h : len ≤ 1048576) (hi : 0 ≤ i) (h97 : 97 ≤ m) (h122 : m ≤ 122)
    (hc : ∀ k, k < len → w.cell? (x.add k) = some (.int .u8 (g k))) (hge : (len : Int) ≤ i) :
    Calls Try.prog 5 #[.slice (some x) len cap, .int .i64 i, .int .u8 m] w fun e w' => e = .returned (.bool true) ∧ Below w.heap.size w w' := by
  have hnn := neq_nil_some x len cap
  obtain ⟨i0, hi0, hz0, hz1, hz2⟩ := info_parts Try.info5
  have h' : ¬ (1048576 : Int) < (len : Int) := by omega
  have hm' : decide (m < 97) = false := by simp; omega
  go_enter Try.func5, Try.ntmps5
  go_wp2_with (first | (at_make; refine wpList_make_full _ rfl _ _ 22 rfl w.heap.size 5 i0 (.int .u8 0) 1 Try.underlying22 hi0 hz0 hz1 _ _ _ _ len rfl rfl rfl rfl (by rw [hz2]; omega) (by unfold maxLen; omega) (Nat.le_refl _) ?_) | go_in)
  intro w1 hown hgrow
  have hb1 : Below w.heap.size w w1 := (Below.refl _ _).grown hgrow (Nat.le_refl _) (fun k e => by cases e)
  obtain ⟨w2, hcp, hb2, hsz2, hc2⟩ := copy_made w.heap.size w1 _ x len cap g hown (fun k hk => hgrow.cell (hc k hk) (by simp))
  clear hown hgrow hc
  go_wp2_with (go_at_call 16; refine (zzexp_ge _ _ _ _ _ _ hge).mono ?_; rintro e w' ⟨rfl, rfl⟩)
  go_ret
  exact ⟨ret_bool (by simp), hb1.trans hb2⟩

set_option maxHeartbeats 1000000 in
theorem law5_lt (x : Addr) (len cap : Nat) (g : Nat → Int) (i : Nat) (m : Int) (w : World) (h : len ≤ 1048576) (h97 : 97 ≤ m) (h122 : m ≤ 122) (hg : ∀ k, 0 ≤ g k ∧ g k ≤ 255)
    (hc : ∀ k, k < len → w.cell? (x.add k) = some (.int .u8 (g k))) (hlt : i < len) :
    Calls Try.prog 5 #[.slice (some x) len cap, .int .i64 i, .int .u8 m] w fun e w' => e = .returned (.bool true) ∧ Below w.heap.size w w' := by
  have hnn := neq_nil_some x len cap
  obtain ⟨i0, hi0, hz0, hz1, hz2⟩ := info_parts Try.info5
  have h' : ¬ (1048576 : Int) < (len : Int) := by omega
  have hd0 : decide (len ≤ i) = false := by simp; omega
  have hm' : decide (m < 97) = false := by simp; omega
  go_enter Try.func5, Try.ntmps5
  go_wp2_with (first | (at_make; refine wpList_make_full _ rfl _ _ 22 rfl w.heap.size 5 i0 (.int .u8 0) 1 Try.underlying22 hi0 hz0 hz1 _ _ _ _ len rfl rfl rfl rfl (by rw [hz2]; omega) (by unfold maxLen; omega) (Nat.le_refl _) ?_) | go_in)
  intro w1 hown hgrow
  have hb1 : Below w.heap.size w w1 := (Below.refl _ _).grown hgrow (Nat.le_refl _) (fun k e => by cases e)
  obtain ⟨w2, hcp, hb2, hsz2, hc2⟩ := copy_made w.heap.size w1 _ x len cap g hown (fun k hk => hgrow.cell (hc k hk) (by simp))
  have hbl := hb1.trans hb2
  clear hown hgrow hc hsz2 hb1 hb2
  go_wp2_with fail
  refine (zzexp_lt w.heap.size 0 len len g i m w2 (by omega) hlt hg h97 h122 (fun k hk => by simpa using hc2 k hk)).mono ?_
  rintro e w' ⟨⟨r, rfl, hr⟩, rfl⟩
  clear hcp hnn
  have hcx : ∀ n, i + n ≤ len → ∀ k, k < n → w'.cell? ⟨w.heap.size, i + k, none⟩ = some (.int .u8 (g (i + k))) := fun n hn k hk => hc2 (i + k) (by omega)
  rcases hr with ⟨rfl, hr⟩ | ⟨hmk, s, hs, hsr, hrl, hall, hend⟩
  · have hno : ∀ n, r + n ≤ len → ¬ ExpP g m r n := fun n hn => exp_none hr hn
    have HN : Hid (∀ n, r + n ≤ len → ¬ ExpP g m r n) := hno
    have HC : Hid (∀ n, r + n ≤ len → ∀ k, k < n → w'.cell? ⟨w.heap.size, r + k, none⟩ = some (.int .u8 (g (r + k)))) := hcx
    clear hr hno hcx hc2
    by_cases h3 : r + 3 ≤ len
    · go_wp2_with fail
      refine (isExp_false w.heap.size r (2) (len - r) g r m w' (by omega) h97 h122 (HN.out _ (by omega)) (HC.out _ (by omega))).mono ?_
      rintro e w3 ⟨rfl, rfl⟩
      go_wp2_with fail
      refine (isExp_false w.heap.size r (3) (len - r) g r m w3 (by omega) h97 h122 (HN.out _ (by omega)) (HC.out _ (by omega))).mono ?_
      rintro e w4 ⟨rfl, rfl⟩
      go_wp2
      go_ret
      exact ⟨rfl, hbl⟩
    · by_cases h2 : r + 2 ≤ len
      · go_wp2_with fail
        refine (isExp_false w.heap.size r (2) (len - r) g r m w' (by omega) h97 h122 (HN.out _ (by omega)) (HC.out _ (by omega))).mono ?_
        rintro e w3 ⟨rfl, rfl⟩
        go_wp2_with fail
        refine (isExp_false w.heap.size r (len - r) (len - r) g r m w3 (by omega) h97 h122 (HN.out _ (by omega)) (HC.out _ (by omega))).mono ?_
        rintro e w4 ⟨rfl, rfl⟩
        go_wp2
        go_ret
        exact ⟨rfl, hbl⟩
      · go_wp2_with fail
        refine (isExp_false w.heap.size r (len - r) (len - r) g r m w' (by omega) h97 h122 (HN.out _ (by omega)) (HC.out _ (by omega))).mono ?_
        rintro e w3 ⟨rfl, rfl⟩
        go_wp2_with fail
        refine (isExp_false w.heap.size r (len - r) (len - r) g r m w3 (by omega) h97 h122 (HN.out _ (by omega)) (HC.out _ (by omega))).mono ?_
        rintro e w4 ⟨rfl, rfl⟩
        go_wp2
        go_ret
        exact ⟨rfl, hbl⟩
  · obtain ⟨hr2, hP⟩ := exp_some hmk hs hsr hrl hall
    have hcr := hcx (r - i) (by omega)
    clear hall hs hmk hcx
    have hne : ((r : Int) == (i : Int)) = false := by simp; omega
    have hlt2 : decide ((r : Int) < (i : Int) + 2) = false := by simp; omega
    have HE : Hid (r = len ∨ decB (g r) = false) := hend
    clear hend
    go_wp2_with fail
    refine (isExp_true w.heap.size i (r - i) (len - i) g i m w' (by omega) h97 h122 hP hcr).mono ?_
    rintro e w3 ⟨rfl, rfl⟩
    clear hcr hP
    by_cases hrl2 : r < len
    · have hdr : decB (g r) = false := by
        rcases HE.out with e | e
        · omega
        · exact e
      have hcr := hc2 r hrl2
      have hrl3 : ((r : Int) == (len : Int)) = false := by simp; omega
      clear hc2 HE
      go_wp2_with (go_at_call 18; refine (isDec_any _ _).mono ?_; rintro e w' ⟨rfl, rfl⟩)
      go_ret
      exact ⟨rfl, hbl⟩
    · have hrl3 : ((r : Int) == (len : Int)) = true := by simp; omega
      clear hc2 HE
      go_wp2
      go_ret
      exact ⟨rfl, hbl⟩
end Go.Proofs.Qxb6617244a
