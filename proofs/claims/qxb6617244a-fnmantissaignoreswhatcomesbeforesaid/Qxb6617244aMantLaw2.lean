import Derived.Test.Qxb6617244aNum
import Derived.Test.Qxb6617244aCat
namespace Go.Proofs.Qxb6617244a
open Go.RowKit

theorem law4_p (a0 a1 : Option Addr) (l0 c0 l1 c1 : Nat) (i base : Int) (w : World) (h : 524288 < l0) (hm0 : l0 ≤ maxLen) (hm1 : l1 ≤ maxLen) :
    Calls Try.prog 4 #[.slice a0 l0 c0, .slice a1 l1 c1, .int .i64 i, .int .i64 base] w fun e w' => e = .returned (.bool true) ∧ Below w.heap.size w w' := by
  unfold maxLen at hm0 hm1
  have h' : (524288 : Int) < (l0 : Int) := by omega
  go_enter Try.func4, Try.ntmps4
  go_wp2
  all_goals
    go_ret
    exact ⟨rfl, Below.refl _ _⟩

theorem law4_b (a0 a1 : Option Addr) (l0 c0 l1 c1 : Nat) (i base : Int) (w : World) (h0 : l0 ≤ 524288) (h : 524288 < l1) (hm1 : l1 ≤ maxLen) :
    Calls Try.prog 4 #[.slice a0 l0 c0, .slice a1 l1 c1, .int .i64 i, .int .i64 base] w fun e w' => e = .returned (.bool true) ∧ Below w.heap.size w w' := by
  unfold maxLen at hm1
  have h' : (524288 : Int) < (l1 : Int) := by omega
  go_enter Try.func4, Try.ntmps4
  go_wp2
  all_goals
    go_ret
    exact ⟨rfl, Below.refl _ _⟩

theorem law4_i (a0 a1 : Option Addr) (l0 c0 l1 c1 : Nat) (i base : Int) (w : World) (h0 : l0 ≤ 524288) (h : l1 ≤ 524288) (hi : i < 0 ∨ 1073741824 < i) :
    Calls Try.prog 4 #[.slice a0 l0 c0, .slice a1 l1 c1, .int .i64 i, .int .i64 base] w fun e w' => e = .returned (.bool true) ∧ Below w.heap.size w w' := by
  rcases hi with hi | hi
  · go_enter Try.func4, Try.ntmps4
    go_wp2
    go_ret
    exact ⟨rfl, Below.refl _ _⟩
  · have hi' : ¬ i < 0 := by omega
    have hi2 : decide (i < 0) = false := by simp; omega
    go_enter Try.func4, Try.ntmps4
    go_wp2
    go_ret
    exact ⟨rfl, Below.refl _ _⟩

theorem law4_base (a0 a1 : Option Addr) (l0 c0 l1 c1 : Nat) (i base : Int) (w : World) (h0 : l0 ≤ 524288) (h : l1 ≤ 524288) (hi : 0 ≤ i) (hi1 : i ≤ 1073741824) (h10 : base ≠ 10) (h16 : base ≠ 16) :
    Calls Try.prog 4 #[.slice a0 l0 c0, .slice a1 l1 c1, .int .i64 i, .int .i64 base] w fun e w' => e = .returned (.bool true) ∧ Below w.heap.size w w' := by
  have e1 : (base != 10) = true := by simpa using h10
  have e2 : (base != 16) = true := by simpa using h16
  have hi2 : decide (i < 0) = false := by simp; omega
  clear h10 h16
  go_enter Try.func4, Try.ntmps4
  go_wp2
  go_ret
  exact ⟨rfl, Below.refl _ _⟩

set_option maxHeartbeats 1000000 in
theorem law4_nil (a0 : Option Addr) (l0 c0 : Nat) (g0 : Nat → Int) (i base : Int) (w : World) (h0 : l0 ≤ 524288) (hs0 : SlIn w a0 l0 c0 g0) (hi : 0 ≤ i) (hi1 : i ≤ 1073741824) (hb : base = 10 ∨ base = 16) :
    Calls Try.prog 4 #[.slice a0 l0 c0, .slice none 0 0, .int .i64 i, .int .i64 base] w fun e w' => e = .returned (.bool true) ∧ Below w.heap.size w w' := by
  have hnn := neq_nil_none
  have hi2 : decide (i < 0) = false := by simp; omega
  have hs1 : SlIn w none 0 0 (fun _ => 0) := ⟨fun _ => ⟨rfl, rfl⟩, fun x hx => by cases hx⟩
  rcases hb with rfl | rfl
  all_goals
    go_enter Try.func4, Try.ntmps4
    go_wp2_with (go_at_call 12; go_in)
    refine (zzmant_ge _ _ _ _ _ _ (by simpa using hi)).mono ?_
    rintro e w' ⟨rfl, rfl⟩
    go_wp2_with fail
    refine (zzCat_any a0 none l0 c0 0 0 g0 (fun _ => 0) w' hs0 hs1 (by omega) (by omega)).mono ?_
    rintro e w3 ⟨rfl, hbl, hsz, hcx⟩
    clear hcx hs0 hs1
    go_wp2_with fail
    refine (zzmant_ge _ _ _ _ _ _ (by omega)).mono ?_
    rintro e w4 ⟨rfl, rfl⟩
    go_wp2
    all_goals
      go_ret
      exact ⟨ret_bool (by first | (simp; done) | (simp; omega)), hbl⟩

set_option maxHeartbeats 1000000 in
theorem law4_ge (a0 : Option Addr) (l0 c0 : Nat) (g0 : Nat → Int) (x : Addr) (len cap : Nat) (g : Nat → Int) (i base : Int) (w : World) (h0 : l0 ≤ 524288) (h : len ≤ 524288) (hs0 : SlIn w a0 l0 c0 g0)
    (hi : 0 ≤ i) (hi1 : i ≤ 1073741824) (hb : base = 10 ∨ base = 16) (hc : ∀ k, k < len → w.cell? (x.add k) = some (.int .u8 (g k))) (hge : (len : Int) ≤ i) :
    Calls Try.prog 4 #[.slice a0 l0 c0, .slice (some x) len cap, .int .i64 i, .int .i64 base] w fun e w' => e = .returned (.bool true) ∧ Below w.heap.size w w' := by
  have hnn := neq_nil_some x len cap
  have hi2 : decide (i < 0) = false := by simp; omega
  obtain ⟨i0, hi0, hz0, hz1, hz2⟩ := info_parts Try.info5
  rcases hb with rfl | rfl
  all_goals
    go_enter Try.func4, Try.ntmps4
    go_wp2_with (first | (at_make; refine wpList_make_full _ rfl _ _ 22 rfl w.heap.size 5 i0 (.int .u8 0) 1 Try.underlying22 hi0 hz0 hz1 _ _ _ _ len rfl rfl rfl rfl (by rw [hz2]; omega) (by unfold maxLen; omega) (Nat.le_refl _) ?_) | (go_at_call 12; go_in))
    intro w1 hown hgrow
    have hb1 : Below w.heap.size w w1 := (Below.refl _ _).grown hgrow (Nat.le_refl _) (fun k e => by cases e)
    obtain ⟨w2, hcp, hb2, hsz2, hc2⟩ := copy_made w.heap.size w1 _ x len cap g hown (fun k hk => hgrow.cell (hc k hk) (by simp))
    have hbl := hb1.trans hb2
    have hs0' := hs0.below hbl
    have hs1 : SlIn w2 (some ⟨w.heap.size, 0, none⟩) len len g := ⟨fun e => (by cases e), fun y hy k hk => (by cases hy; rw [Addr.add_lit]; simpa using hc2 k hk)⟩
    clear hown hgrow hc hc2 hb1 hb2 hs0
    go_wp2_with fail
    refine (zzmant_ge _ _ _ _ _ _ hge).mono ?_
    rintro e w' ⟨rfl, rfl⟩
    clear hcp
    go_wp2_with fail
    refine (zzCat_any a0 (some ⟨w.heap.size, 0, none⟩) l0 c0 len len g0 g w' hs0' hs1 (by omega) (by omega)).mono ?_
    rintro e w3 ⟨rfl, hbl3, hsz, hcx⟩
    have hbl' := hbl.trans (hbl3.mono hbl.size)
    clear hcx hs0' hs1
    go_wp2_with fail
    refine (zzmant_ge _ _ _ _ _ _ (by omega)).mono ?_
    rintro e w4 ⟨rfl, rfl⟩
    go_wp2
    all_goals
      go_ret
      exact ⟨ret_bool (by first | (simp; done) | (simp; omega)), hbl'⟩

theorem mant_same {g0 g : Nat → Int} {base : Int} {l0 len i n1 n2 D1 D2 : Nat} {Z1 Z2 q1 q2 : Bool} (hi : i < len) (b1 : i + n1 ≤ len) (b2 : l0 + i + n2 ≤ l0 + len)
    (m1 : MS g base i n1 D1 Z1 q1) (s1 : Stop g base len i n1) (m2 : MS (catg g0 l0 g) base (l0 + i) n2 D2 Z2 q2) (s2 : Stop (catg g0 l0 g) base (l0 + len) (l0 + i) n2) : n2 = n1 ∧ D2 = D1 ∧ Z2 = Z1 := by
  have hw : ∀ k, g (i + k) = catg g0 l0 g (l0 + i + k) := fun k => by
    unfold catg
    rw [if_neg (by omega)]
    congr 1
    omega
  have e1 : n2 ≤ n1 := stop_le (by omega) (by omega) (fun k _ => hw k) s1 b1 ⟨m2.2.2.2.2, m2.2.2.2.1⟩ b2
  have e2 : n1 ≤ n2 := stop_le (by omega) (by omega) (fun k _ => (hw k).symm) s2 b2 ⟨m1.2.2.2.2, m1.2.2.2.1⟩ b1
  have e : n2 = n1 := by omega
  subst e
  obtain ⟨_, h2, h3⟩ := window_eq (g1 := g) (g2 := catg g0 l0 g) (i1 := i) (i2 := l0 + i) (n := n2) (fun k _ => hw k)
  exact ⟨rfl, by rw [m1.1, m2.1, h2], by rw [m1.2.1, m2.2.1, h3]⟩

theorem Stop.dig {g : Nat → Int} {base : Int} {len i n : Nat} (h : Stop g base len i n) (hl : i + n < len) : digB (g (i + n)) base = false := by
  rcases h with e | ⟨_, e, _⟩
  · omega
  · exact e

theorem catg_bd {g0 g1 : Nat → Int} (l0 : Nat) (h0 : ∀ k, 0 ≤ g0 k ∧ g0 k ≤ 255) (h1 : ∀ k, 0 ≤ g1 k ∧ g1 k ≤ 255) : ∀ k, 0 ≤ catg g0 l0 g1 k ∧ catg g0 l0 g1 k ≤ 255 := fun k => by
  unfold catg
  split
  · exact h0 _
  · exact h1 _

set_option maxHeartbeats 1000000 in
theorem law4_lt (a0 : Option Addr) (l0 c0 : Nat) (g0 : Nat → Int) (x : Addr) (len cap : Nat) (g : Nat → Int) (i : Nat) (base : Int) (w : World) (h0 : l0 ≤ 524288) (h : len ≤ 524288) (hs0 : SlIn w a0 l0 c0 g0)
    (hb : base = 10 ∨ base = 16) (hg0 : ∀ k, 0 ≤ g0 k ∧ g0 k ≤ 255) (hg : ∀ k, 0 ≤ g k ∧ g k ≤ 255) (hc : ∀ k, k < len → w.cell? (x.add k) = some (.int .u8 (g k))) (hlt : i < len) :
    Calls Try.prog 4 #[.slice a0 l0 c0, .slice (some x) len cap, .int .i64 i, .int .i64 base] w fun e w' => e = .returned (.bool true) ∧ Below w.heap.size w w' := by
  have hnn := neq_nil_some x len cap
  obtain ⟨i0, hi0, hz0, hz1, hz2⟩ := info_parts Try.info5
  have hgc := catg_bd l0 hg0 hg
  rcases hb with rfl | rfl
  all_goals
    go_enter Try.func4, Try.ntmps4
    go_wp2_with (first | (at_make; refine wpList_make_full _ rfl _ _ 22 rfl w.heap.size 5 i0 (.int .u8 0) 1 Try.underlying22 hi0 hz0 hz1 _ _ _ _ len rfl rfl rfl rfl (by rw [hz2]; omega) (by unfold maxLen; omega) (Nat.le_refl _) ?_) | (go_at_call 12; go_in))
    intro w1 hown hgrow
    have hb1 : Below w.heap.size w w1 := (Below.refl _ _).grown hgrow (Nat.le_refl _) (fun k e => by cases e)
    obtain ⟨w2, hcp, hb2, hsz2, hc2⟩ := copy_made w.heap.size w1 _ x len cap g hown (fun k hk => hgrow.cell (hc k hk) (by simp))
    have hbl := hb1.trans hb2
    have hs0' := hs0.below hbl
    have hs1 : SlIn w2 (some ⟨w.heap.size, 0, none⟩) len len g := ⟨fun e => (by cases e), fun y hy k hk => (by cases hy; rw [Addr.add_lit]; simpa using hc2 k hk)⟩
    have hlw : w.heap.size < w2.heap.size := by rw [hsz2]; exact (hown.lt _ rfl).2
    clear hown hgrow hc hb1 hb2 hs0 hsz2
    go_wp2_with fail
    refine (zzmant_lt w.heap.size 0 len len g i _ w2 (by omega) hlt hg (fun k hk => by simpa using hc2 k hk)).mono ?_
    rintro e w' ⟨⟨n, D, Z, q, rfl, hn, hms, hst⟩, rfl⟩
    clear hcp hnn
    go_wp2_with fail
    refine (zzCat_any a0 (some ⟨w.heap.size, 0, none⟩) l0 c0 len len g0 g w' hs0' hs1 (by omega) (by omega)).mono ?_
    rintro e w3 ⟨rfl, hbl3, hsz, hcx⟩
    have hbl' := hbl.trans (hbl3.mono hbl.size)
    have hc3 : ∀ k, k < len → w3.cell? ⟨w.heap.size, k, none⟩ = some (.int .u8 (g k)) := fun k hk => (hbl3.cell (by exact hlw)).trans (hc2 k hk)
    clear hs0' hs1 hc2
    go_wp2_with fail
    rw [show ((l0 : Int) + (i : Int)) = ((l0 + i : Nat) : Int) from by omega]
    refine (zzmant_lt w'.heap.size 0 (l0 + len) (l0 + len) (catg g0 l0 g) (l0 + i) _ w3 (by omega) (by omega) hgc (fun k hk => by simpa using hcx k hk)).mono ?_
    rintro e w4 ⟨⟨n', D', Z', q', rfl, hn', hms', hst'⟩, rfl⟩
    obtain ⟨rfl, rfl, rfl⟩ := mant_same hlt hn hn' hms hst hms' hst'
    clear hcx hms' hst' hms
    by_cases hend : i + n' < len
    · have hce := hc3 (i + n') hend
      have hdg := hst.dig hend
      clear hst hc3
      go_wp2_with (go_at_call 14; refine (isDigitOf_any _ _ _).mono ?_; rintro e w' ⟨rfl, rfl⟩)
      go_ret
      exact ⟨ret_bool (by first | (simp; done) | (simp; omega)), hbl'⟩
    · clear hst hc3
      go_wp2
      go_ret
      exact ⟨ret_bool (by first | (simp; done) | (simp; omega)), hbl'⟩
end Go.Proofs.Qxb6617244a
