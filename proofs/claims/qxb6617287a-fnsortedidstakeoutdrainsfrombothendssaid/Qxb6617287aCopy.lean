import Derived.Test.Qxb6617287aMem
namespace Go.Proofs.Qxb6617287a
open Go.RowKit

/-- The value of run r. -/
def runV (G ln K : Nat → Nat) (r : Nat) : Value := .slice (some ⟨G r, 0, none⟩) (ln r) (K r)
/-- The runs of a sortedIDs: an outer row of slices, each over a block of its own. -/
structure Rs (w : World) (base bo mcap m : Nat) (G K ln : Nat → Nat) (T : Nat → Nat → ByteArray) : Prop where
  low : base ≤ bo
  outer : Row w 27 bo m mcap (runV G ln K)
  inner : ∀ r, r < m → base ≤ G r ∧ Row w 9 (G r) (ln r) (K r) (fun j => .string (T r j))
  apart : ∀ r q, r < m → q < m → G r = G q → r = q

theorem Rs.below {w w' : World} {base bo mcap m : Nat} {G K ln : Nat → Nat} {T : Nat → Nat → ByteArray} (h : Rs w base bo mcap m G K ln T) (hb : Below w.heap.size w w') : Rs w' base bo mcap m G K ln T :=
  ⟨h.low, h.outer.below hb, fun r hr => ⟨(h.inner r hr).1, (h.inner r hr).2.below hb⟩, h.apart⟩

/-- A run more is laid behind the others. -/
theorem Rs.laid {w : World} {B n r : Nat} {G : Nat → Nat} {L : Nat → Nat} {S : Nat → Nat → ByteArray} (h : Rs w B B n r G L L S) (hr : r < n) {g : Nat} (hg : ∀ q, q < r → G q < g) (hB : B < g) (hrow : Row w 9 g (L r) (L r) (fun j => .string (S r j))) :
    Rs (w.setCell ⟨B, r, none⟩ (.slice (some ⟨g, 0, none⟩) (L r) (L r))) B B n (r + 1) (fun q => if q = r then g else G q) L L S := by
  have hne : ∀ q, q < r → G q ≠ B := fun q hq => (h.inner q hq).2.ne h.outer (by decide)
  refine ⟨h.low, ?_, fun q hq => ?_, fun p q hp hq e => ?_⟩
  · obtain ⟨cs, h1, h2, h3, h4⟩ := h.outer
    refine ⟨cs.set r (.slice (some ⟨g, 0, none⟩) (L r) (L r)), heap_setCell_at h1 r _, by simpa using h2, by omega, fun q hq => ?_⟩
    by_cases e : q = r
    · subst e
      rw [List.getElem?_set_self (by omega)]
      simp [runV]
    · rw [List.getElem?_set_ne (by omega), h4 q (by omega)]
      simp [runV, e]
  · by_cases e : q = r
    · subst e
      simp only [if_true]
      exact ⟨by omega, hrow.other (by show g ≠ B; omega) _⟩
    · simp only [if_neg e]
      have := h.inner q (by omega)
      exact ⟨this.1, this.2.other (hne q (by omega)) _⟩
  · by_cases e1 : p = r
    · by_cases e2 : q = r
      · omega
      · simp only [if_pos e1, if_neg e2] at e
        have := hg q (by omega)
        omega
    · by_cases e2 : q = r
      · simp only [if_neg e1, if_pos e2] at e
        have := hg p (by omega)
        omega
      · simp only [if_neg e1, if_neg e2] at e
        exact h.apart p q (by omega) (by omega) e

set_option maxHeartbeats 1000000 in
theorem copyRuns_some (b off n cap : Nat) (A : Nat → Option Addr) (L C IB JO : Nat → Nat) (S : Nat → Nat → ByteArray) (w : World) (hn : n ≤ 65536) (hL : ∀ r, r < n → 0 < L r ∧ L r ≤ 65536) (hR : RunsW w b off n A L C IB JO S) :
    Calls Try.prog 10 #[.slice (some ⟨b, off, none⟩) n cap] w fun e w' =>
      e = .returned (.slice (some ⟨w.heap.size, 0, none⟩) n n) ∧ Below w.heap.size w w' ∧ ∃ G, Rs w' w.heap.size w.heap.size n n G L L S := by
  obtain ⟨i9, hi9, hz0, hz1, hz2⟩ := info_parts Try.info9
  obtain ⟨i27, hi27, hy0, hy1, hy2⟩ := info_parts Try.info27
  have hnil := eql22_some ⟨b, off, none⟩ n cap
  go_enter Try.func10, Try.ntmps10
  go_wp2_with (at_make; refine wpList_make_full _ rfl _ _ 22 rfl w.heap.size 27 i27 (.slice none 0 0) 1 Try.underlying22 hi27 hy0 hy1 _ _ _ _ n rfl rfl rfl rfl (by rw [hy2]; omega) (by unfold maxLen; omega) (Nat.le_refl _) ?_)
  intro w1 hown1 hgrow1
  have hb1 : Below w.heap.size w w1 := (Below.refl _ _).grown hgrow1 (Nat.le_refl _) (fun k e => by cases e)
  have hs1 : w.heap.size < w1.heap.size := (hown1.lt _ rfl).2
  have hrs1 : Rs w1 w.heap.size w.heap.size n 0 (fun _ => 0) L L S := ⟨Nat.le_refl _, Row.fresh hown1 _, fun r hr => absurd hr (Nat.not_lt_zero _), fun p q hp => absurd hp (Nat.not_lt_zero _)⟩
  clear hgrow1 hown1 hnil
  go_wp2
  go_loopw [4] (fun i wr => ∃ r : Nat, r ≤ n ∧ i = .int .i64 (r : Int) ∧ Below w.heap.size w wr ∧ w.heap.size < wr.heap.size ∧ ∃ G, (∀ q, q < r → G q < wr.heap.size) ∧ Rs wr w.heap.size w.heap.size n r G L L S) (fun i _ => n - (intOf i).toNat)
  case atStart => exact ⟨0, by omega, rfl, hb1, hs1, fun _ => 0, fun q h => absurd h (Nat.not_lt_zero _), hrs1⟩
  case round =>
    obtain ⟨r, hr, rfl, hbr, hsz, G, hG, hrs⟩ := hrel
    by_cases hlt : r < n
    · obtain ⟨hc, _, hA, hS⟩ := (hR.below hbr) r hlt
      obtain ⟨hL0, hL1⟩ := hL r hlt
      rw [hA hL0] at hc
      have hnil := eql27_some ⟨IB r, JO r, none⟩ (L r) (C r)
      clear hrs1 hb1 hs1 hA
      go_wp2_with (at_make; refine wpList_make_full _ rfl _ _ 27 rfl 0 9 i9 (.string ByteArray.empty) 1 Try.underlying27 hi9 hz0 hz1 _ _ _ _ (L r) rfl rfl rfl rfl (by rw [hz2]; omega) (by unfold maxLen; omega) (Nat.zero_le _) ?_)
      intro w2 hown2 hgrow2
      have hrow0 : Row w2 9 wr.heap.size 0 (L r) (fun j => .string (S r j)) := Row.fresh hown2 _
      have hb2 : Below wr.heap.size wr w2 := (Below.refl _ _).grown hgrow2 (Nat.le_refl _) (fun k e => by cases e)
      have s2 : wr.heap.size < w2.heap.size := (hown2.lt _ rfl).2
      clear hown2 hgrow2 hS
      obtain ⟨W, hW⟩ : ∃ W, W = wr := ⟨_, rfl⟩
      subst hW
      have hc2 := (hR.below (hbr.trans (hb2.mono hbr.size))) r hlt
      have hc2' := hc2.1
      rw [hc2.2.2.1 hL0] at hc2'
      clear hc hc2
      go_wp2
      go_loopw [6] (fun i ws => ∃ j : Nat, j ≤ L r ∧ i = .int .i64 (j : Int) ∧ Below W.heap.size W ws ∧ W.heap.size < ws.heap.size ∧ Row ws 9 W.heap.size j (L r) (fun j => .string (S r j))) (fun i _ => L r - (intOf i).toNat)
      case atStart => exact ⟨0, by omega, rfl, hb2, s2, hrow0⟩
      case round =>
        obtain ⟨j, hj, rfl, hbs, hss, hrow⟩ := hrel
        clear hrow0 hb2 s2 hc2'
        have hbw := hbr.trans (hbs.mono hbr.size)
        obtain ⟨hc, _, hA, hS⟩ := (hR.below hbw) r hlt
        rw [hA hL0] at hc
        clear hA
        by_cases hjl : j < L r
        · obtain ⟨hs, _⟩ := hS j hjl
          obtain ⟨v0, hv0⟩ := hrow.ex hjl
          have hf0 := hrow.free j
          have hrow' := hrow.push hjl
          clear hS hR hrow hL
          go_wp2
          go_roundw
          case rel => exact ⟨j + 1, by omega, by go_num, hbs.setCell (Nat.le_refl _) _, by simpa [World.setCell] using hss, hrow'⟩
          case measure => simp [intOf]; omega
        · have hjq : j = L r := by omega
          subst hjq
          have hrs' := hrs.below hbs
          obtain ⟨v0, hv0⟩ := hrs'.outer.ex hlt
          have hf0 := hrs'.outer.free r
          have R := hrs'.laid hlt (fun q hq => hG q hq) hsz hrow
          clear hS hR hrow hL hrs hrs'
          go_wp2
          go_roundw
          case rel => exact ⟨r + 1, by omega, by go_num, hbw.setCell (Nat.le_refl _) _, by have := hbs.size; simp [World.setCell]; omega, _, fun q hq => by
                        have := hbs.size
                        simp only [World.setCell, Array.size_modify]
                        split
                        · omega
                        · have := hG q (by omega); omega, R⟩
          case measure => simp [intOf]; omega
    · have hrn : r = n := by omega
      subst hrn
      clear hR hL
      go_wp2
      go_ret
      exact ⟨rfl, hbr, G, hrs⟩

theorem copyRuns_zero (x : Addr) (cap : Nat) (w : World) :
    Calls Try.prog 10 #[.slice (some x) 0 cap] w fun e w' => e = .returned (.slice (some ⟨w.heap.size, 0, none⟩) 0 0) ∧ Below w.heap.size w w' := by
  obtain ⟨i27, hi27, hy0, hy1, hy2⟩ := info_parts Try.info27
  have hnil := eql22_some x 0 cap
  go_enter Try.func10, Try.ntmps10
  go_wp2_with (at_make; refine wpList_make_full _ rfl _ _ 22 rfl w.heap.size 27 i27 (.slice none 0 0) 1 Try.underlying22 hi27 hy0 hy1 _ _ _ _ 0 rfl rfl rfl rfl (by rw [hy2]; omega) (by unfold maxLen; omega) (Nat.le_refl _) ?_)
  intro w1 hown1 hgrow1
  have hb1 : Below w.heap.size w w1 := (Below.refl _ _).grown hgrow1 (Nat.le_refl _) (fun k e => by cases e)
  clear hgrow1 hown1 hnil
  go_wp2
  refine wp_loop_rounds 1 ?_
  rw [rounds_succ]
  go_wp2
  go_ret
  exact ⟨rfl, hb1⟩

theorem copyRuns_nil (w : World) :
    Calls Try.prog 10 #[.slice none 0 0] w fun e w' => e = .returned (.slice none 0 0) ∧ w' = w := by
  have hnil := eql22_none
  go_enter Try.func10, Try.ntmps10
  go_wp2
  go_ret
  exact ⟨rfl, rfl⟩
end Go.Proofs.Qxb6617287a
