import Derived.Test.Qxb6617287aTake
import Derived.BigRegion
namespace Go.Proofs.Qxb6617287a
open Go.RowKit

/-- The mergeHead in block h: it stands at place j of run r. -/
def headV (mcap m : Nat) (G K ln : Nat → Nat) (ra : Option Addr) (r j : Nat) (q : Nat) : Value :=
  if q = 0 then .slice (some ⟨G r, j, none⟩) (ln r - j) (K r - j) else .slice ra (m - (r + 1)) (mcap - (r + 1))
def MH (w : World) (h bo mcap m : Nat) (G K ln : Nat → Nat) (r j : Nat) : Prop :=
  ∃ ra, (r + 1 < m → ra = some ⟨bo, r + 1, none⟩) ∧ Row w 47 h 2 2 (headV mcap m G K ln ra r j)

theorem below_set (h j : Nat) (w : World) (v : Value) : Below h w (w.setCell ⟨h, j, none⟩ v) := (Below.refl _ _).setCell (p := ⟨h, j, none⟩) (Nat.le_refl _) _

theorem headRun_any (h : Nat) (v : Value) (w : World) (hc : w.cell? ⟨h, 0, none⟩ = some v) :
    Calls Try.prog 17 #[.pointer (some ⟨h, 0, none⟩)] w fun e w' => e = .returned v ∧ w = w' := by
  go_enter Try.func17, Try.ntmps17
  go_wp2
  go_ret
  exact ⟨rfl, rfl⟩

theorem newHead_any (a a' : Option Addr) (l c l' c' : Nat) (w : World) :
    Calls Try.prog 16 #[.slice a l c, .slice a' l' c'] w fun e w' => e = .returned (.pointer (some ⟨w.heap.size, 0, none⟩)) ∧ w' = w.alloc (.cells #[.slice a l c, .slice a' l' c'] 47) := by
  go_enter Try.func16, Try.ntmps16
  go_wp2
  go_ret
  exact ⟨rfl, rfl⟩

/-- next within a run. -/
theorem next_in (h bo mcap m r j : Nat) (G K ln : Nat → Nat) (w : World) (hj : j + 1 < ln r) (hK : ln r ≤ K r) (hm : MH w h bo mcap m G K ln r j) :
    Calls Try.prog 21 #[.pointer (some ⟨h, 0, none⟩)] w fun e w' => e = .returned (.bool true) ∧ Below h w w' ∧ MH w' h bo mcap m G K ln r (j + 1) := by
  obtain ⟨ra, hra, hrow⟩ := hm
  have hc0 : w.cell? ⟨h, 0, none⟩ = some (.slice (some ⟨G r, j, none⟩) (ln r - j) (K r - j)) := hrow.cell (j := 0) (by omega)
  have hf0 := hrow.free 0
  have h1 : ¬ K r - j = 1 := by omega
  have h2 : (1 : Int) ≤ ((ln r - j : Nat) : Int) := by omega
  have h3 : (0 : Int) < ((ln r - j - 1 : Nat) : Int) := by omega
  have R : ∀ v, v = Value.slice (some ⟨G r, j + 1, none⟩) (ln r - j - 1) (K r - j - 1) → MH (w.setCell ⟨h, 0, none⟩ v) h bo mcap m G K ln r (j + 1) := fun v hv => by
    refine ⟨ra, hra, (hrow.set (j := 0) (by omega) v).congr (fun q hq => ?_)⟩
    unfold headV
    by_cases c : q = 0
    · rw [if_pos c, if_pos c, hv, Nat.sub_sub, Nat.sub_sub]
    · rw [if_neg c, if_neg c, if_neg c]
  clear hrow
  go_enter Try.func21, Try.ntmps21
  go_wp2
  go_ret
  exact ⟨rfl, below_set _ _ _ _, R _ rfl⟩

/-- next behind the last id. -/
theorem next_end (h bo mcap m r j : Nat) (G K ln : Nat → Nat) (w : World) (hj : j + 1 = ln r) (hr : r + 1 = m) (hm : MH w h bo mcap m G K ln r j) :
    Calls Try.prog 21 #[.pointer (some ⟨h, 0, none⟩)] w fun e w' => e = .returned (.bool false) ∧ Below h w w' := by
  obtain ⟨ra, hra, hrow⟩ := hm
  have hc0 : w.cell? ⟨h, 0, none⟩ = some (.slice (some ⟨G r, j, none⟩) 1 (K r - j)) := by
    have := hrow.cell (j := 0) (by omega)
    simp only [headV, if_true] at this
    rw [this, ← hj]
    congr 2
    omega
  have hf0 := hrow.free 0
  have hc1 : ∀ v, (w.setCell ⟨h, 0, none⟩ v).cell? ⟨h, 1, none⟩ = some (.slice ra 0 (mcap - (r + 1))) := fun v => by
    have := (hrow.set (j := 0) (by omega) v).cell (j := 1) (by omega)
    rw [this, if_neg (by omega)]
    unfold headV
    rw [if_neg (by omega)]
    congr 2
    omega
  clear hrow hra
  go_enter Try.func21, Try.ntmps21
  go_wp2
  all_goals
    go_ret
    exact ⟨rfl, below_set _ _ _ _⟩

set_option maxHeartbeats 2000000 in
/-- next behind a run's last id. -/
theorem next_move (h bo mcap m r j : Nat) (G K ln : Nat → Nat) (w : World) (hj : j + 1 = ln r) (hr : r + 1 < m) (hmc : m ≤ mcap) (hout : Row w 27 bo m mcap (runV G ln K)) (hm : MH w h bo mcap m G K ln r j) :
    Calls Try.prog 21 #[.pointer (some ⟨h, 0, none⟩)] w fun e w' => e = .returned (.bool true) ∧ Below h w w' ∧ MH w' h bo mcap m G K ln (r + 1) 0 := by
  obtain ⟨ra, hra, hrow⟩ := hm
  have hra' := hra hr
  subst hra'
  have hc0 : w.cell? ⟨h, 0, none⟩ = some (.slice (some ⟨G r, j, none⟩) 1 (K r - j)) := by
    have := hrow.cell (j := 0) (by omega)
    simp only [headV, if_true] at this
    rw [this, ← hj]
    congr 2
    omega
  have hf0 := hrow.free 0
  have hf1 := hrow.free 1
  have hc1 : ∀ v, (w.setCell ⟨h, 0, none⟩ v).cell? ⟨h, 1, none⟩ = some (.slice (some ⟨bo, r + 1, none⟩) (m - (r + 1)) (mcap - (r + 1))) := fun v => by
    have := (hrow.set (j := 0) (by omega) v).cell (j := 1) (by omega)
    rw [this, if_neg (by omega)]
    unfold headV
    rw [if_neg (by omega)]
  have hco : ∀ v, (w.setCell ⟨h, 0, none⟩ v).cell? ⟨bo, r + 1, none⟩ = some (.slice (some ⟨G (r + 1), 0, none⟩) (ln (r + 1)) (K (r + 1))) := fun v => (hout.other (a := ⟨h, 0, none⟩) (hout.ne hrow (by decide)) v).cell hr
  obtain ⟨A, hA⟩ : ∃ A : Option Addr, (if K r - j = 1 then some (⟨G r, j, none⟩ : Addr) else some ⟨G r, j + 1, none⟩) = A := ⟨_, rfl⟩
  obtain ⟨RA, hRA⟩ : ∃ RA : Option Addr, (if mcap - (r + 1) = 1 then some (⟨bo, r + 1, none⟩ : Addr) else some ⟨bo, r + 1 + 1, none⟩) = RA := ⟨_, rfl⟩
  have hm1 : (1 : Int) ≤ ((m - (r + 1) : Nat) : Int) := by omega
  have hm2 : ((m - (r + 1) : Nat) : Int) = ((m - (r + 1) : Nat) : Int) := rfl
  have hm3 : ¬ ((m - (r + 1) : Nat) : Int) = 0 := by omega
  have hm4 : (((m - (r + 1) : Nat) : Int) == 0) = false := by simp; omega
  have hm5 : 1 ≤ m - (r + 1) := by omega
  clear hm2 hj
  go_enter Try.func21, Try.ntmps21
  go_wp2_with fail
  go_region
  go_wp2
  go_ret
  refine ⟨rfl, ((((below_set _ _ _ _).setCell (p := ⟨h, 0, none⟩) (Nat.le_refl _) _).setCell (p := ⟨h, 1, none⟩) (Nat.le_refl _) _).drew), RA, fun hr2 => ?_, ?_⟩
  · rw [← hRA, if_neg (by omega)]
  · refine (((hrow.set (j := 0) (by omega) _).set (j := 0) (by omega) _).set (j := 1) (by omega) _).congr (fun q hq => ?_)
    unfold headV
    by_cases c : q = 0
    · subst c
      simp
    · have c1 : q = 1 := by omega
      subst c1
      simp [Nat.sub_sub]
end Go.Proofs.Qxb6617287a
