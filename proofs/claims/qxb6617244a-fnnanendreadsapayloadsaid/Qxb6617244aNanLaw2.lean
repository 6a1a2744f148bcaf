import Derived.Test.Qxb6617244aCat2
namespace Go.Proofs.Qxb6617244a
open Go.RowKit

theorem law8_early (a0 a1 a2 : Option Addr) (l0 c0 l1 c1 l2 c2 : Nat) (w : World) (h : 262144 < l0 ∨ (l0 ≤ 262144 ∧ 262144 < l1) ∨ (l0 ≤ 262144 ∧ l1 ≤ 262144 ∧ 262144 < l2)) (hm0 : l0 ≤ maxLen) (hm1 : l1 ≤ maxLen) (hm2 : l2 ≤ maxLen) :
    Calls Try.prog 8 #[.slice a0 l0 c0, .slice a1 l1 c1, .slice a2 l2 c2] w fun e w' => e = .returned (.bool true) ∧ Below w.heap.size w w' := by
  unfold maxLen at hm0 hm1 hm2
  rcases h with h | ⟨h0, h⟩ | ⟨h0, h1, h⟩
  · have h' : (262144 : Int) < (l0 : Int) := by omega
    go_enter Try.func8, Try.ntmps8
    go_wp2
    all_goals
      go_ret
      exact ⟨rfl, Below.refl _ _⟩
  · have h' : (262144 : Int) < (l1 : Int) := by omega
    go_enter Try.func8, Try.ntmps8
    go_wp2
    all_goals
      go_ret
      exact ⟨rfl, Below.refl _ _⟩
  · have h' : (262144 : Int) < (l2 : Int) := by omega
    go_enter Try.func8, Try.ntmps8
    go_wp2
    all_goals
      go_ret
      exact ⟨rfl, Below.refl _ _⟩

theorem zzb8 (a0 a1 a2 : Option Addr) (l0 c0 l1 c1 l2 c2 : Nat) (w : World) (k0 : l0 ≤ 262144) (k1 : l1 ≤ 262144) (k2 : l2 ≤ 262144) :
    Calls Try.prog 23 #[.slice a0 l0 c0, .slice a1 l1 c1, .slice a2 l2 c2] w fun e w' => e = .returned (.bool true) ∧ w' = w := by
  go_enter Try.func23, Try.ntmps23
  go_wp2
  go_ret
  exact ⟨rfl, rfl⟩

theorem w8_facts (w : World) : Below w.heap.size w ((w.alloc (.cells #[.int .u8 40] 5)).alloc (.cells #[.int .u8 41] 5)) ∧
    SlIn ((w.alloc (.cells #[.int .u8 40] 5)).alloc (.cells #[.int .u8 41] 5)) (some ⟨w.heap.size, 0, none⟩) 1 1 (fun _ => 40) ∧
    SlIn ((w.alloc (.cells #[.int .u8 40] 5)).alloc (.cells #[.int .u8 41] 5)) (some ⟨w.heap.size + 1, 0, none⟩) 1 1 (fun _ => 41) := by
  refine ⟨((Below.refl _ _).alloc (Nat.le_refl _) _).alloc (by simp) _, ⟨fun e => (by cases e), fun y hy k hk => ?_⟩, ⟨fun e => (by cases e), fun y hy k hk => ?_⟩⟩
  · cases hy
    have : k = 0 := by omega
    subst this
    have e1 : ((w.alloc (.cells #[.int .u8 40] 5)).alloc (.cells #[.int .u8 41] 5)).heap[w.heap.size]? = some (.cells #[.int .u8 40] 5 (0, 0)) := by
      rw [Below.heap_alloc _ _ _ (by simp)]
      exact heap_alloc_new w _
    rw [Addr.add_lit]
    simp only [World.cell?, e1]
    rfl
  · cases hy
    have : k = 0 := by omega
    subst this
    have e1 : ((w.alloc (.cells #[.int .u8 40] 5)).alloc (.cells #[.int .u8 41] 5)).heap[w.heap.size + 1]? = some (.cells #[.int .u8 41] 5 (0, 0)) := by
      have := heap_alloc_new (w.alloc (.cells #[.int .u8 40] 5)) (.cells #[.int .u8 41] 5)
      simpa using this
    rw [Addr.add_lit]
    simp only [World.cell?, e1]
    rfl

set_option maxHeartbeats 4000000 in
theorem law8_zz (a0 a1 a2 : Option Addr) (l0 c0 l1 c1 l2 c2 : Nat) (g0 g1 g2 : Nat → Int) (w : World) (k0 : l0 ≤ 262144) (k1 : l1 ≤ 262144) (k2 : l2 ≤ 262144)
    (hs0 : SlIn w a0 l0 c0 g0) (hs1 : SlIn w a1 l1 c1 g1) (hs2 : SlIn w a2 l2 c2 g2) (hg0 : ∀ k, 0 ≤ g0 k ∧ g0 k ≤ 255) (hg1 : ∀ k, 0 ≤ g1 k ∧ g1 k ≤ 255) (hg2 : ∀ k, 0 ≤ g2 k ∧ g2 k ≤ 255) (h1 : l1 ≤ 0) (h2 : l2 ≤ 0) :
    Calls Try.prog 8 #[.slice a0 l0 c0, .slice a1 l1 c1, .slice a2 l2 c2] w fun e w' => e = .returned (.bool true) ∧ Below w.heap.size w w' := by
  go_enter Try.func8, Try.ntmps8
  go_wp2_with (go_at_call 23; refine (zzb8 _ _ _ _ _ _ _ _ _ _ (by assumption) (by assumption) (by assumption)).mono ?_; rintro e w' ⟨rfl, rfl⟩)
  go_loop [7] (fun t => ∃ k : Nat, k ≤ l1 ∧ t = .int .i64 (k : Int) ∧ Hid (∀ q, q < k → wordB (g1 q) = true)) (fun t => l1 - (intOf t).toNat)
  case atStart => exact ⟨0, by omega, rfl, show ∀ q, q < 0 → wordB (g1 q) = true from fun q h => by omega⟩
  case round =>
    obtain ⟨k, hk, rfl, HW0⟩ := hrel
    by_cases hlt : k < l1
    · omega
    · have HW : Hid (∀ q, q < l1 → wordB (g1 q) = true) := show ∀ q, q < l1 → wordB (g1 q) = true from fun q h => HW0.out q (by omega)
      clear HW0 
      have HS : Hid (l2 = 0 ∨ (wordB (g2 0) = false ∧ g2 0 ≠ 41)) := show l2 = 0 ∨ (wordB (g2 0) = false ∧ g2 0 ≠ 41) from Or.inl (by omega)
      obtain ⟨hbl0, so0, sc0⟩ := w8_facts w'
      have sp0 := hs0.below hbl0
      have sw0 := hs1.below hbl0
      have ss0 := hs2.below hbl0
      clear hs0 hs1 hs2
      go_wp2_with fail
      generalize ((w'.alloc (.cells #[.int .u8 40] 5)).alloc (.cells #[.int .u8 41] 5)) = W0 at hbl0 so0 sc0 sp0 sw0 ss0 ⊢
      refine (zzCat_named a0 (some ⟨w'.heap.size, 0, none⟩) (l0) (c0) (1) (1) g0 (fun _ => 40) W0 sp0 so0 (by omega) (by omega)).mono ?_
      rintro e W1 ⟨B1, rfl, hb1, sx11⟩
      have hbl1 := hbl0.trans (hb1.mono hbl0.size)
      have sp1 := sp0.below hb1
      have so1 := so0.below hb1
      have sc1 := sc0.below hb1
      have sw1 := sw0.below hb1
      have ss1 := ss0.below hb1
      clear sp0 so0 sc0 sw0 ss0 hb1 hbl0
      go_wp2_with fail
      refine (zzCat_named (some ⟨B1, 0, none⟩) a1 (l0 + 1) (l0 + 1) (l1) (c1) (catg g0 (l0) (fun _ => 40)) g1 W1 sx11 sw1 (by omega) (by omega)).mono ?_
      rintro e W2 ⟨B2, rfl, hb2, sx22⟩
      have hbl2 := hbl1.trans (hb2.mono hbl1.size)
      have sp2 := sp1.below hb2
      have so2 := so1.below hb2
      have sc2 := sc1.below hb2
      have sw2 := sw1.below hb2
      have ss2 := ss1.below hb2
      clear sp1 so1 sc1 sw1 ss1 sx11 hb2 hbl1
      go_wp2_with fail
      refine (zzCat_named (some ⟨B2, 0, none⟩) (some ⟨w'.heap.size + 1, 0, none⟩) (l0 + 1 + l1) (l0 + 1 + l1) (1) (1) (catg (catg g0 (l0) (fun _ => 40)) (l0 + 1) g1) (fun _ => 41) W2 sx22 sc2 (by omega) (by omega)).mono ?_
      rintro e W3 ⟨B3, rfl, hb3, sx33⟩
      have hbl3 := hbl2.trans (hb3.mono hbl2.size)
      have sp3 := sp2.below hb3
      have so3 := so2.below hb3
      have sw3 := sw2.below hb3
      have ss3 := ss2.below hb3
      clear sp2 so2 sc2 sw2 ss2 sx22 hb3 hbl2
      go_wp2_with fail
      refine (zzCat_named (some ⟨B3, 0, none⟩) a2 (l0 + 1 + l1 + 1) (l0 + 1 + l1 + 1) (l2) (c2) (catg (catg (catg g0 (l0) (fun _ => 40)) (l0 + 1) g1) (l0 + 1 + l1) (fun _ => 41)) g2 W3 sx33 ss3 (by omega) (by omega)).mono ?_
      rintro e W4 ⟨B4, rfl, hb4, sx44⟩
      have hbl4 := hbl3.trans (hb4.mono hbl3.size)
      have sp4 := sp3.below hb4
      have so4 := so3.below hb4
      have sw4 := sw3.below hb4
      have ss4 := ss3.below hb4
      clear sp3 so3 sw3 ss3 sx33 hb4 hbl3
      go_wp2_with fail
      refine (zzCat_named a0 (some ⟨w'.heap.size, 0, none⟩) (l0) (c0) (1) (1) g0 (fun _ => 40) W4 sp4 so4 (by omega) (by omega)).mono ?_
      rintro e W5 ⟨B5, rfl, hb5, sy15⟩
      have hbl5 := hbl4.trans (hb5.mono hbl4.size)
      have sw5 := sw4.below hb5
      have ss5 := ss4.below hb5
      have sx45 := sx44.below hb5
      clear sp4 so4 sw4 ss4 sx44 hb5 hbl4
      go_wp2_with fail
      refine (zzCat_named (some ⟨B5, 0, none⟩) a1 (l0 + 1) (l0 + 1) (l1) (c1) (catg g0 (l0) (fun _ => 40)) g1 W5 sy15 sw5 (by omega) (by omega)).mono ?_
      rintro e W6 ⟨B6, rfl, hb6, sy26⟩
      have hbl6 := hbl5.trans (hb6.mono hbl5.size)
      have ss6 := ss5.below hb6
      have sx46 := sx45.below hb6
      clear sw5 ss5 sx45 sy15 hb6 hbl5
      go_wp2_with fail
      refine (zzCat_named (some ⟨B6, 0, none⟩) a2 (l0 + 1 + l1) (l0 + 1 + l1) (l2) (c2) (catg (catg g0 (l0) (fun _ => 40)) (l0 + 1) g1) g2 W6 sy26 ss6 (by omega) (by omega)).mono ?_
      rintro e W7 ⟨B7, rfl, hb7, sy37⟩
      have hbl7 := hbl6.trans (hb7.mono hbl6.size)
      have sx47 := sx46.below hb7
      clear ss6 sx46 sy26 hb7 hbl6
      go_wp2_with fail
      refine (zznan_lt B4 0 (l0 + 1 + l1 + 1 + l2) (l0 + 1 + l1 + 1 + l2) (catg (catg (catg (catg g0 (l0) (fun _ => 40)) (l0 + 1) g1) (l0 + 1 + l1) (fun _ => 41)) (l0 + 1 + l1 + 1) g2) l0 W7 (by omega) (by omega) (catg_rng _ (catg_rng _ (catg_rng _ (catg_rng _ hg0 (fun _ => by omega)) hg1) (fun _ => by omega)) hg2) (SlIn.cells sx47)).mono ?_
      rintro e W8 ⟨⟨r, rfl, hr⟩, rfl⟩
      have hr1 := nan_pays (gs := g2) (go := fun _ => 40) (gc := fun _ => 41) rfl rfl HW.out hr
      subst hr1
      clear hr
      go_wp2_with fail
      refine (zznan_lt B7 0 (l0 + 1 + l1 + l2) (l0 + 1 + l1 + l2) (catg (catg (catg g0 (l0) (fun _ => 40)) (l0 + 1) g1) (l0 + 1 + l1) g2) l0 W8 (by omega) (by omega) (catg_rng _ (catg_rng _ (catg_rng _ hg0 (fun _ => by omega)) hg1) hg2) (SlIn.cells sy37)).mono ?_
      rintro e W9 ⟨⟨r, rfl, hr⟩, rfl⟩
      have hr2 := nan_open (gs := g2) (go := fun _ => 40) HW.out HS.out hr
      subst hr2
      clear hr
      go_wp2
      go_ret
      exact ⟨ret_bool (by first | (simp; done) | (simp; omega)), hbl7⟩

set_option maxHeartbeats 4000000 in
theorem law8_pz (a0 a2 : Option Addr) (b1 o1 l0 c0 l1 c1 l2 c2 : Nat) (g0 g1 g2 : Nat → Int) (w : World) (k0 : l0 ≤ 262144) (k1 : l1 ≤ 262144) (k2 : l2 ≤ 262144)
    (hs0 : SlIn w a0 l0 c0 g0) (hs1 : SlIn w (some ⟨b1, o1, none⟩) l1 c1 g1) (hs2 : SlIn w a2 l2 c2 g2) (hg0 : ∀ k, 0 ≤ g0 k ∧ g0 k ≤ 255) (hg1 : ∀ k, 0 ≤ g1 k ∧ g1 k ≤ 255) (hg2 : ∀ k, 0 ≤ g2 k ∧ g2 k ≤ 255) (h1 : 0 < l1) (h2 : l2 ≤ 0) :
    Calls Try.prog 8 #[.slice a0 l0 c0, .slice (some ⟨b1, o1, none⟩) l1 c1, .slice a2 l2 c2] w fun e w' => e = .returned (.bool true) ∧ Below w.heap.size w w' := by
  have hc1 : ∀ k, k < l1 → w.cell? ⟨b1, o1 + k, none⟩ = some (.int .u8 (g1 k)) := fun k hk => by
    have := hs1.2 _ rfl k hk
    rwa [Addr.add_lit] at this
  go_enter Try.func8, Try.ntmps8
  go_wp2_with (go_at_call 23; refine (zzb8 _ _ _ _ _ _ _ _ _ _ (by assumption) (by assumption) (by assumption)).mono ?_; rintro e w' ⟨rfl, rfl⟩)
  go_loop [7] (fun t => ∃ k : Nat, k ≤ l1 ∧ t = .int .i64 (k : Int) ∧ Hid (∀ q, q < k → wordB (g1 q) = true)) (fun t => l1 - (intOf t).toNat)
  case atStart => exact ⟨0, by omega, rfl, show ∀ q, q < 0 → wordB (g1 q) = true from fun q h => by omega⟩
  case round =>
    obtain ⟨k, hk, rfl, HW0⟩ := hrel
    by_cases hlt : k < l1
    · have hck := hc1 k hlt
      clear hc1
      by_cases hwk : wordB (g1 k) = true
      · go_wp2_with (go_at_call 22; refine (isWord_any _ _).mono ?_; rintro e w' ⟨rfl, rfl⟩)
        go_round
        case rel => exact ⟨k + 1, by omega, by go_num, show ∀ q, q < k + 1 → wordB (g1 q) = true from fun q h => by
                      by_cases e : q = k
                      · rw [e]; exact hwk
                      · exact HW0.out q (by omega)⟩
        case measure => simp [intOf]; omega
      · have hwk' : wordB (g1 k) = false := by simpa using hwk
        clear hwk
        go_wp2_with (go_at_call 22; refine (isWord_any _ _).mono ?_; rintro e w' ⟨rfl, rfl⟩)
        go_ret
        exact ⟨rfl, Below.refl _ _⟩
    · have HW : Hid (∀ q, q < l1 → wordB (g1 q) = true) := show ∀ q, q < l1 → wordB (g1 q) = true from fun q h => HW0.out q (by omega)
      clear HW0 hc1
      have HS : Hid (l2 = 0 ∨ (wordB (g2 0) = false ∧ g2 0 ≠ 41)) := show l2 = 0 ∨ (wordB (g2 0) = false ∧ g2 0 ≠ 41) from Or.inl (by omega)
      obtain ⟨hbl0, so0, sc0⟩ := w8_facts w'
      have sp0 := hs0.below hbl0
      have sw0 := hs1.below hbl0
      have ss0 := hs2.below hbl0
      clear hs0 hs1 hs2
      go_wp2_with fail
      generalize ((w'.alloc (.cells #[.int .u8 40] 5)).alloc (.cells #[.int .u8 41] 5)) = W0 at hbl0 so0 sc0 sp0 sw0 ss0 ⊢
      refine (zzCat_named a0 (some ⟨w'.heap.size, 0, none⟩) (l0) (c0) (1) (1) g0 (fun _ => 40) W0 sp0 so0 (by omega) (by omega)).mono ?_
      rintro e W1 ⟨B1, rfl, hb1, sx11⟩
      have hbl1 := hbl0.trans (hb1.mono hbl0.size)
      have sp1 := sp0.below hb1
      have so1 := so0.below hb1
      have sc1 := sc0.below hb1
      have sw1 := sw0.below hb1
      have ss1 := ss0.below hb1
      clear sp0 so0 sc0 sw0 ss0 hb1 hbl0
      go_wp2_with fail
      refine (zzCat_named (some ⟨B1, 0, none⟩) (some ⟨b1, o1, none⟩) (l0 + 1) (l0 + 1) (l1) (c1) (catg g0 (l0) (fun _ => 40)) g1 W1 sx11 sw1 (by omega) (by omega)).mono ?_
      rintro e W2 ⟨B2, rfl, hb2, sx22⟩
      have hbl2 := hbl1.trans (hb2.mono hbl1.size)
      have sp2 := sp1.below hb2
      have so2 := so1.below hb2
      have sc2 := sc1.below hb2
      have sw2 := sw1.below hb2
      have ss2 := ss1.below hb2
      clear sp1 so1 sc1 sw1 ss1 sx11 hb2 hbl1
      go_wp2_with fail
      refine (zzCat_named (some ⟨B2, 0, none⟩) (some ⟨w'.heap.size + 1, 0, none⟩) (l0 + 1 + l1) (l0 + 1 + l1) (1) (1) (catg (catg g0 (l0) (fun _ => 40)) (l0 + 1) g1) (fun _ => 41) W2 sx22 sc2 (by omega) (by omega)).mono ?_
      rintro e W3 ⟨B3, rfl, hb3, sx33⟩
      have hbl3 := hbl2.trans (hb3.mono hbl2.size)
      have sp3 := sp2.below hb3
      have so3 := so2.below hb3
      have sw3 := sw2.below hb3
      have ss3 := ss2.below hb3
      clear sp2 so2 sc2 sw2 ss2 sx22 hb3 hbl2
      go_wp2_with fail
      refine (zzCat_named (some ⟨B3, 0, none⟩) a2 (l0 + 1 + l1 + 1) (l0 + 1 + l1 + 1) (l2) (c2) (catg (catg (catg g0 (l0) (fun _ => 40)) (l0 + 1) g1) (l0 + 1 + l1) (fun _ => 41)) g2 W3 sx33 ss3 (by omega) (by omega)).mono ?_
      rintro e W4 ⟨B4, rfl, hb4, sx44⟩
      have hbl4 := hbl3.trans (hb4.mono hbl3.size)
      have sp4 := sp3.below hb4
      have so4 := so3.below hb4
      have sw4 := sw3.below hb4
      have ss4 := ss3.below hb4
      clear sp3 so3 sw3 ss3 sx33 hb4 hbl3
      go_wp2_with fail
      refine (zzCat_named a0 (some ⟨w'.heap.size, 0, none⟩) (l0) (c0) (1) (1) g0 (fun _ => 40) W4 sp4 so4 (by omega) (by omega)).mono ?_
      rintro e W5 ⟨B5, rfl, hb5, sy15⟩
      have hbl5 := hbl4.trans (hb5.mono hbl4.size)
      have sw5 := sw4.below hb5
      have ss5 := ss4.below hb5
      have sx45 := sx44.below hb5
      clear sp4 so4 sw4 ss4 sx44 hb5 hbl4
      go_wp2_with fail
      refine (zzCat_named (some ⟨B5, 0, none⟩) (some ⟨b1, o1, none⟩) (l0 + 1) (l0 + 1) (l1) (c1) (catg g0 (l0) (fun _ => 40)) g1 W5 sy15 sw5 (by omega) (by omega)).mono ?_
      rintro e W6 ⟨B6, rfl, hb6, sy26⟩
      have hbl6 := hbl5.trans (hb6.mono hbl5.size)
      have ss6 := ss5.below hb6
      have sx46 := sx45.below hb6
      clear sw5 ss5 sx45 sy15 hb6 hbl5
      go_wp2_with fail
      refine (zzCat_named (some ⟨B6, 0, none⟩) a2 (l0 + 1 + l1) (l0 + 1 + l1) (l2) (c2) (catg (catg g0 (l0) (fun _ => 40)) (l0 + 1) g1) g2 W6 sy26 ss6 (by omega) (by omega)).mono ?_
      rintro e W7 ⟨B7, rfl, hb7, sy37⟩
      have hbl7 := hbl6.trans (hb7.mono hbl6.size)
      have sx47 := sx46.below hb7
      clear ss6 sx46 sy26 hb7 hbl6
      go_wp2_with fail
      refine (zznan_lt B4 0 (l0 + 1 + l1 + 1 + l2) (l0 + 1 + l1 + 1 + l2) (catg (catg (catg (catg g0 (l0) (fun _ => 40)) (l0 + 1) g1) (l0 + 1 + l1) (fun _ => 41)) (l0 + 1 + l1 + 1) g2) l0 W7 (by omega) (by omega) (catg_rng _ (catg_rng _ (catg_rng _ (catg_rng _ hg0 (fun _ => by omega)) hg1) (fun _ => by omega)) hg2) (SlIn.cells sx47)).mono ?_
      rintro e W8 ⟨⟨r, rfl, hr⟩, rfl⟩
      have hr1 := nan_pays (gs := g2) (go := fun _ => 40) (gc := fun _ => 41) rfl rfl HW.out hr
      subst hr1
      clear hr
      go_wp2_with fail
      refine (zznan_lt B7 0 (l0 + 1 + l1 + l2) (l0 + 1 + l1 + l2) (catg (catg (catg g0 (l0) (fun _ => 40)) (l0 + 1) g1) (l0 + 1 + l1) g2) l0 W8 (by omega) (by omega) (catg_rng _ (catg_rng _ (catg_rng _ hg0 (fun _ => by omega)) hg1) hg2) (SlIn.cells sy37)).mono ?_
      rintro e W9 ⟨⟨r, rfl, hr⟩, rfl⟩
      have hr2 := nan_open (gs := g2) (go := fun _ => 40) HW.out HS.out hr
      subst hr2
      clear hr
      go_wp2
      go_ret
      exact ⟨ret_bool (by first | (simp; done) | (simp; omega)), hbl7⟩

set_option maxHeartbeats 4000000 in
theorem law8_zp (a0 a1 : Option Addr) (b2 o2 l0 c0 l1 c1 l2 c2 : Nat) (g0 g1 g2 : Nat → Int) (w : World) (k0 : l0 ≤ 262144) (k1 : l1 ≤ 262144) (k2 : l2 ≤ 262144)
    (hs0 : SlIn w a0 l0 c0 g0) (hs1 : SlIn w a1 l1 c1 g1) (hs2 : SlIn w (some ⟨b2, o2, none⟩) l2 c2 g2) (hg0 : ∀ k, 0 ≤ g0 k ∧ g0 k ≤ 255) (hg1 : ∀ k, 0 ≤ g1 k ∧ g1 k ≤ 255) (hg2 : ∀ k, 0 ≤ g2 k ∧ g2 k ≤ 255) (h1 : l1 ≤ 0) (h2 : 0 < l2) :
    Calls Try.prog 8 #[.slice a0 l0 c0, .slice a1 l1 c1, .slice (some ⟨b2, o2, none⟩) l2 c2] w fun e w' => e = .returned (.bool true) ∧ Below w.heap.size w w' := by
  have hc2 : w.cell? ⟨b2, o2, none⟩ = some (.int .u8 (g2 0)) := by
    have := hs2.2 _ rfl 0 h2
    rwa [Addr.add_lit] at this
  go_enter Try.func8, Try.ntmps8
  go_wp2_with (go_at_call 23; refine (zzb8 _ _ _ _ _ _ _ _ _ _ (by assumption) (by assumption) (by assumption)).mono ?_; rintro e w' ⟨rfl, rfl⟩)
  go_loop [7] (fun t => ∃ k : Nat, k ≤ l1 ∧ t = .int .i64 (k : Int) ∧ Hid (∀ q, q < k → wordB (g1 q) = true)) (fun t => l1 - (intOf t).toNat)
  case atStart => exact ⟨0, by omega, rfl, show ∀ q, q < 0 → wordB (g1 q) = true from fun q h => by omega⟩
  case round =>
    obtain ⟨k, hk, rfl, HW0⟩ := hrel
    by_cases hlt : k < l1
    · omega
    · have HW : Hid (∀ q, q < l1 → wordB (g1 q) = true) := show ∀ q, q < l1 → wordB (g1 q) = true from fun q h => HW0.out q (by omega)
      clear HW0 
      by_cases hws : wordB (g2 0) = true
      · go_wp2_with (go_at_call 22; refine (isWord_any _ _).mono ?_; rintro e w' ⟨rfl, rfl⟩)
        go_ret
        exact ⟨rfl, Below.refl _ _⟩
      · have hws' : wordB (g2 0) = false := by simpa using hws
        clear hws
        by_cases h41 : g2 0 = 41
        · have h41' : (g2 0 == 41) = true := by simpa using h41
          clear h41
          go_wp2_with (go_at_call 22; refine (isWord_any _ _).mono ?_; rintro e w' ⟨rfl, rfl⟩)
          go_ret
          exact ⟨rfl, Below.refl _ _⟩
        · have h41' : (g2 0 == 41) = false := by simpa using h41
          have HS : Hid (l2 = 0 ∨ (wordB (g2 0) = false ∧ g2 0 ≠ 41)) := show l2 = 0 ∨ (wordB (g2 0) = false ∧ g2 0 ≠ 41) from Or.inr ⟨hws', h41⟩
          clear h41
          go_wp2_with fail
          refine (isWord_any _ _).mono ?_
          rintro e wx ⟨rfl, rfl⟩
          obtain ⟨hbl0, so0, sc0⟩ := w8_facts wx
          have sp0 := hs0.below hbl0
          have sw0 := hs1.below hbl0
          have ss0 := hs2.below hbl0
          clear hs0 hs1 hs2
          go_wp2_with fail
          generalize ((wx.alloc (.cells #[.int .u8 40] 5)).alloc (.cells #[.int .u8 41] 5)) = W0 at hbl0 so0 sc0 sp0 sw0 ss0 ⊢
          refine (zzCat_named a0 (some ⟨wx.heap.size, 0, none⟩) (l0) (c0) (1) (1) g0 (fun _ => 40) W0 sp0 so0 (by omega) (by omega)).mono ?_
          rintro e W1 ⟨B1, rfl, hb1, sx11⟩
          have hbl1 := hbl0.trans (hb1.mono hbl0.size)
          have sp1 := sp0.below hb1
          have so1 := so0.below hb1
          have sc1 := sc0.below hb1
          have sw1 := sw0.below hb1
          have ss1 := ss0.below hb1
          clear sp0 so0 sc0 sw0 ss0 hb1 hbl0
          go_wp2_with fail
          refine (zzCat_named (some ⟨B1, 0, none⟩) a1 (l0 + 1) (l0 + 1) (l1) (c1) (catg g0 (l0) (fun _ => 40)) g1 W1 sx11 sw1 (by omega) (by omega)).mono ?_
          rintro e W2 ⟨B2, rfl, hb2, sx22⟩
          have hbl2 := hbl1.trans (hb2.mono hbl1.size)
          have sp2 := sp1.below hb2
          have so2 := so1.below hb2
          have sc2 := sc1.below hb2
          have sw2 := sw1.below hb2
          have ss2 := ss1.below hb2
          clear sp1 so1 sc1 sw1 ss1 sx11 hb2 hbl1
          go_wp2_with fail
          refine (zzCat_named (some ⟨B2, 0, none⟩) (some ⟨wx.heap.size + 1, 0, none⟩) (l0 + 1 + l1) (l0 + 1 + l1) (1) (1) (catg (catg g0 (l0) (fun _ => 40)) (l0 + 1) g1) (fun _ => 41) W2 sx22 sc2 (by omega) (by omega)).mono ?_
          rintro e W3 ⟨B3, rfl, hb3, sx33⟩
          have hbl3 := hbl2.trans (hb3.mono hbl2.size)
          have sp3 := sp2.below hb3
          have so3 := so2.below hb3
          have sw3 := sw2.below hb3
          have ss3 := ss2.below hb3
          clear sp2 so2 sc2 sw2 ss2 sx22 hb3 hbl2
          go_wp2_with fail
          refine (zzCat_named (some ⟨B3, 0, none⟩) (some ⟨b2, o2, none⟩) (l0 + 1 + l1 + 1) (l0 + 1 + l1 + 1) (l2) (c2) (catg (catg (catg g0 (l0) (fun _ => 40)) (l0 + 1) g1) (l0 + 1 + l1) (fun _ => 41)) g2 W3 sx33 ss3 (by omega) (by omega)).mono ?_
          rintro e W4 ⟨B4, rfl, hb4, sx44⟩
          have hbl4 := hbl3.trans (hb4.mono hbl3.size)
          have sp4 := sp3.below hb4
          have so4 := so3.below hb4
          have sw4 := sw3.below hb4
          have ss4 := ss3.below hb4
          clear sp3 so3 sw3 ss3 sx33 hb4 hbl3
          go_wp2_with fail
          refine (zzCat_named a0 (some ⟨wx.heap.size, 0, none⟩) (l0) (c0) (1) (1) g0 (fun _ => 40) W4 sp4 so4 (by omega) (by omega)).mono ?_
          rintro e W5 ⟨B5, rfl, hb5, sy15⟩
          have hbl5 := hbl4.trans (hb5.mono hbl4.size)
          have sw5 := sw4.below hb5
          have ss5 := ss4.below hb5
          have sx45 := sx44.below hb5
          clear sp4 so4 sw4 ss4 sx44 hb5 hbl4
          go_wp2_with fail
          refine (zzCat_named (some ⟨B5, 0, none⟩) a1 (l0 + 1) (l0 + 1) (l1) (c1) (catg g0 (l0) (fun _ => 40)) g1 W5 sy15 sw5 (by omega) (by omega)).mono ?_
          rintro e W6 ⟨B6, rfl, hb6, sy26⟩
          have hbl6 := hbl5.trans (hb6.mono hbl5.size)
          have ss6 := ss5.below hb6
          have sx46 := sx45.below hb6
          clear sw5 ss5 sx45 sy15 hb6 hbl5
          go_wp2_with fail
          refine (zzCat_named (some ⟨B6, 0, none⟩) (some ⟨b2, o2, none⟩) (l0 + 1 + l1) (l0 + 1 + l1) (l2) (c2) (catg (catg g0 (l0) (fun _ => 40)) (l0 + 1) g1) g2 W6 sy26 ss6 (by omega) (by omega)).mono ?_
          rintro e W7 ⟨B7, rfl, hb7, sy37⟩
          have hbl7 := hbl6.trans (hb7.mono hbl6.size)
          have sx47 := sx46.below hb7
          clear ss6 sx46 sy26 hb7 hbl6
          go_wp2_with fail
          refine (zznan_lt B4 0 (l0 + 1 + l1 + 1 + l2) (l0 + 1 + l1 + 1 + l2) (catg (catg (catg (catg g0 (l0) (fun _ => 40)) (l0 + 1) g1) (l0 + 1 + l1) (fun _ => 41)) (l0 + 1 + l1 + 1) g2) l0 W7 (by omega) (by omega) (catg_rng _ (catg_rng _ (catg_rng _ (catg_rng _ hg0 (fun _ => by omega)) hg1) (fun _ => by omega)) hg2) (SlIn.cells sx47)).mono ?_
          rintro e W8 ⟨⟨r, rfl, hr⟩, rfl⟩
          have hr1 := nan_pays (gs := g2) (go := fun _ => 40) (gc := fun _ => 41) rfl rfl HW.out hr
          subst hr1
          clear hr
          go_wp2_with fail
          refine (zznan_lt B7 0 (l0 + 1 + l1 + l2) (l0 + 1 + l1 + l2) (catg (catg (catg g0 (l0) (fun _ => 40)) (l0 + 1) g1) (l0 + 1 + l1) g2) l0 W8 (by omega) (by omega) (catg_rng _ (catg_rng _ (catg_rng _ hg0 (fun _ => by omega)) hg1) hg2) (SlIn.cells sy37)).mono ?_
          rintro e W9 ⟨⟨r, rfl, hr⟩, rfl⟩
          have hr2 := nan_open (gs := g2) (go := fun _ => 40) HW.out HS.out hr
          subst hr2
          clear hr
          go_wp2
          go_ret
          exact ⟨ret_bool (by first | (simp; done) | (simp; omega)), hbl7⟩

set_option maxHeartbeats 4000000 in
theorem law8_pp (a0 : Option Addr) (b1 o1 b2 o2 l0 c0 l1 c1 l2 c2 : Nat) (g0 g1 g2 : Nat → Int) (w : World) (k0 : l0 ≤ 262144) (k1 : l1 ≤ 262144) (k2 : l2 ≤ 262144)
    (hs0 : SlIn w a0 l0 c0 g0) (hs1 : SlIn w (some ⟨b1, o1, none⟩) l1 c1 g1) (hs2 : SlIn w (some ⟨b2, o2, none⟩) l2 c2 g2) (hg0 : ∀ k, 0 ≤ g0 k ∧ g0 k ≤ 255) (hg1 : ∀ k, 0 ≤ g1 k ∧ g1 k ≤ 255) (hg2 : ∀ k, 0 ≤ g2 k ∧ g2 k ≤ 255) (h1 : 0 < l1) (h2 : 0 < l2) :
    Calls Try.prog 8 #[.slice a0 l0 c0, .slice (some ⟨b1, o1, none⟩) l1 c1, .slice (some ⟨b2, o2, none⟩) l2 c2] w fun e w' => e = .returned (.bool true) ∧ Below w.heap.size w w' := by
  have hc1 : ∀ k, k < l1 → w.cell? ⟨b1, o1 + k, none⟩ = some (.int .u8 (g1 k)) := fun k hk => by
    have := hs1.2 _ rfl k hk
    rwa [Addr.add_lit] at this
  have hc2 : w.cell? ⟨b2, o2, none⟩ = some (.int .u8 (g2 0)) := by
    have := hs2.2 _ rfl 0 h2
    rwa [Addr.add_lit] at this
  go_enter Try.func8, Try.ntmps8
  go_wp2_with (go_at_call 23; refine (zzb8 _ _ _ _ _ _ _ _ _ _ (by assumption) (by assumption) (by assumption)).mono ?_; rintro e w' ⟨rfl, rfl⟩)
  go_loop [7] (fun t => ∃ k : Nat, k ≤ l1 ∧ t = .int .i64 (k : Int) ∧ Hid (∀ q, q < k → wordB (g1 q) = true)) (fun t => l1 - (intOf t).toNat)
  case atStart => exact ⟨0, by omega, rfl, show ∀ q, q < 0 → wordB (g1 q) = true from fun q h => by omega⟩
  case round =>
    obtain ⟨k, hk, rfl, HW0⟩ := hrel
    by_cases hlt : k < l1
    · have hck := hc1 k hlt
      clear hc1
      by_cases hwk : wordB (g1 k) = true
      · go_wp2_with (go_at_call 22; refine (isWord_any _ _).mono ?_; rintro e w' ⟨rfl, rfl⟩)
        go_round
        case rel => exact ⟨k + 1, by omega, by go_num, show ∀ q, q < k + 1 → wordB (g1 q) = true from fun q h => by
                      by_cases e : q = k
                      · rw [e]; exact hwk
                      · exact HW0.out q (by omega)⟩
        case measure => simp [intOf]; omega
      · have hwk' : wordB (g1 k) = false := by simpa using hwk
        clear hwk
        go_wp2_with (go_at_call 22; refine (isWord_any _ _).mono ?_; rintro e w' ⟨rfl, rfl⟩)
        go_ret
        exact ⟨rfl, Below.refl _ _⟩
    · have HW : Hid (∀ q, q < l1 → wordB (g1 q) = true) := show ∀ q, q < l1 → wordB (g1 q) = true from fun q h => HW0.out q (by omega)
      clear HW0 hc1
      by_cases hws : wordB (g2 0) = true
      · go_wp2_with (go_at_call 22; refine (isWord_any _ _).mono ?_; rintro e w' ⟨rfl, rfl⟩)
        go_ret
        exact ⟨rfl, Below.refl _ _⟩
      · have hws' : wordB (g2 0) = false := by simpa using hws
        clear hws
        by_cases h41 : g2 0 = 41
        · have h41' : (g2 0 == 41) = true := by simpa using h41
          clear h41
          go_wp2_with (go_at_call 22; refine (isWord_any _ _).mono ?_; rintro e w' ⟨rfl, rfl⟩)
          go_ret
          exact ⟨rfl, Below.refl _ _⟩
        · have h41' : (g2 0 == 41) = false := by simpa using h41
          have HS : Hid (l2 = 0 ∨ (wordB (g2 0) = false ∧ g2 0 ≠ 41)) := show l2 = 0 ∨ (wordB (g2 0) = false ∧ g2 0 ≠ 41) from Or.inr ⟨hws', h41⟩
          clear h41
          go_wp2_with fail
          refine (isWord_any _ _).mono ?_
          rintro e wx ⟨rfl, rfl⟩
          obtain ⟨hbl0, so0, sc0⟩ := w8_facts wx
          have sp0 := hs0.below hbl0
          have sw0 := hs1.below hbl0
          have ss0 := hs2.below hbl0
          clear hs0 hs1 hs2
          go_wp2_with fail
          generalize ((wx.alloc (.cells #[.int .u8 40] 5)).alloc (.cells #[.int .u8 41] 5)) = W0 at hbl0 so0 sc0 sp0 sw0 ss0 ⊢
          refine (zzCat_named a0 (some ⟨wx.heap.size, 0, none⟩) (l0) (c0) (1) (1) g0 (fun _ => 40) W0 sp0 so0 (by omega) (by omega)).mono ?_
          rintro e W1 ⟨B1, rfl, hb1, sx11⟩
          have hbl1 := hbl0.trans (hb1.mono hbl0.size)
          have sp1 := sp0.below hb1
          have so1 := so0.below hb1
          have sc1 := sc0.below hb1
          have sw1 := sw0.below hb1
          have ss1 := ss0.below hb1
          clear sp0 so0 sc0 sw0 ss0 hb1 hbl0
          go_wp2_with fail
          refine (zzCat_named (some ⟨B1, 0, none⟩) (some ⟨b1, o1, none⟩) (l0 + 1) (l0 + 1) (l1) (c1) (catg g0 (l0) (fun _ => 40)) g1 W1 sx11 sw1 (by omega) (by omega)).mono ?_
          rintro e W2 ⟨B2, rfl, hb2, sx22⟩
          have hbl2 := hbl1.trans (hb2.mono hbl1.size)
          have sp2 := sp1.below hb2
          have so2 := so1.below hb2
          have sc2 := sc1.below hb2
          have sw2 := sw1.below hb2
          have ss2 := ss1.below hb2
          clear sp1 so1 sc1 sw1 ss1 sx11 hb2 hbl1
          go_wp2_with fail
          refine (zzCat_named (some ⟨B2, 0, none⟩) (some ⟨wx.heap.size + 1, 0, none⟩) (l0 + 1 + l1) (l0 + 1 + l1) (1) (1) (catg (catg g0 (l0) (fun _ => 40)) (l0 + 1) g1) (fun _ => 41) W2 sx22 sc2 (by omega) (by omega)).mono ?_
          rintro e W3 ⟨B3, rfl, hb3, sx33⟩
          have hbl3 := hbl2.trans (hb3.mono hbl2.size)
          have sp3 := sp2.below hb3
          have so3 := so2.below hb3
          have sw3 := sw2.below hb3
          have ss3 := ss2.below hb3
          clear sp2 so2 sc2 sw2 ss2 sx22 hb3 hbl2
          go_wp2_with fail
          refine (zzCat_named (some ⟨B3, 0, none⟩) (some ⟨b2, o2, none⟩) (l0 + 1 + l1 + 1) (l0 + 1 + l1 + 1) (l2) (c2) (catg (catg (catg g0 (l0) (fun _ => 40)) (l0 + 1) g1) (l0 + 1 + l1) (fun _ => 41)) g2 W3 sx33 ss3 (by omega) (by omega)).mono ?_
          rintro e W4 ⟨B4, rfl, hb4, sx44⟩
          have hbl4 := hbl3.trans (hb4.mono hbl3.size)
          have sp4 := sp3.below hb4
          have so4 := so3.below hb4
          have sw4 := sw3.below hb4
          have ss4 := ss3.below hb4
          clear sp3 so3 sw3 ss3 sx33 hb4 hbl3
          go_wp2_with fail
          refine (zzCat_named a0 (some ⟨wx.heap.size, 0, none⟩) (l0) (c0) (1) (1) g0 (fun _ => 40) W4 sp4 so4 (by omega) (by omega)).mono ?_
          rintro e W5 ⟨B5, rfl, hb5, sy15⟩
          have hbl5 := hbl4.trans (hb5.mono hbl4.size)
          have sw5 := sw4.below hb5
          have ss5 := ss4.below hb5
          have sx45 := sx44.below hb5
          clear sp4 so4 sw4 ss4 sx44 hb5 hbl4
          go_wp2_with fail
          refine (zzCat_named (some ⟨B5, 0, none⟩) (some ⟨b1, o1, none⟩) (l0 + 1) (l0 + 1) (l1) (c1) (catg g0 (l0) (fun _ => 40)) g1 W5 sy15 sw5 (by omega) (by omega)).mono ?_
          rintro e W6 ⟨B6, rfl, hb6, sy26⟩
          have hbl6 := hbl5.trans (hb6.mono hbl5.size)
          have ss6 := ss5.below hb6
          have sx46 := sx45.below hb6
          clear sw5 ss5 sx45 sy15 hb6 hbl5
          go_wp2_with fail
          refine (zzCat_named (some ⟨B6, 0, none⟩) (some ⟨b2, o2, none⟩) (l0 + 1 + l1) (l0 + 1 + l1) (l2) (c2) (catg (catg g0 (l0) (fun _ => 40)) (l0 + 1) g1) g2 W6 sy26 ss6 (by omega) (by omega)).mono ?_
          rintro e W7 ⟨B7, rfl, hb7, sy37⟩
          have hbl7 := hbl6.trans (hb7.mono hbl6.size)
          have sx47 := sx46.below hb7
          clear ss6 sx46 sy26 hb7 hbl6
          go_wp2_with fail
          refine (zznan_lt B4 0 (l0 + 1 + l1 + 1 + l2) (l0 + 1 + l1 + 1 + l2) (catg (catg (catg (catg g0 (l0) (fun _ => 40)) (l0 + 1) g1) (l0 + 1 + l1) (fun _ => 41)) (l0 + 1 + l1 + 1) g2) l0 W7 (by omega) (by omega) (catg_rng _ (catg_rng _ (catg_rng _ (catg_rng _ hg0 (fun _ => by omega)) hg1) (fun _ => by omega)) hg2) (SlIn.cells sx47)).mono ?_
          rintro e W8 ⟨⟨r, rfl, hr⟩, rfl⟩
          have hr1 := nan_pays (gs := g2) (go := fun _ => 40) (gc := fun _ => 41) rfl rfl HW.out hr
          subst hr1
          clear hr
          go_wp2_with fail
          refine (zznan_lt B7 0 (l0 + 1 + l1 + l2) (l0 + 1 + l1 + l2) (catg (catg (catg g0 (l0) (fun _ => 40)) (l0 + 1) g1) (l0 + 1 + l1) g2) l0 W8 (by omega) (by omega) (catg_rng _ (catg_rng _ (catg_rng _ hg0 (fun _ => by omega)) hg1) hg2) (SlIn.cells sy37)).mono ?_
          rintro e W9 ⟨⟨r, rfl, hr⟩, rfl⟩
          have hr2 := nan_open (gs := g2) (go := fun _ => 40) HW.out HS.out hr
          subst hr2
          clear hr
          go_wp2
          go_ret
          exact ⟨ret_bool (by first | (simp; done) | (simp; omega)), hbl7⟩

end Go.Proofs.Qxb6617244a
