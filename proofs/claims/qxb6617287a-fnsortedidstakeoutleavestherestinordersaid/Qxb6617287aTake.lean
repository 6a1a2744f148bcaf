import Derived.Test.Qxb6617287aDrop
namespace Go.Proofs.Qxb6617287a
open Go.RowKit

/-- What takeOut leaves. -/
def TakeW (w : World) (base p bo mcap m i at' : Nat) (ln : Nat → Nat) (T : Nat → Nat → ByteArray) (w' : World) : Prop :=
  ∃ m' G' K' ln' T', St w' base p bo mcap m' G' K' ln' T' ∧ Below base w w' ∧ TakeP m i at' ln T m' ln' T'

theorem take_mid {w1 w4 : World} {base p bo mcap m i : Nat} {G K ln : Nat → Nat} {T : Nat → Nat → ByteArray} (h : St w1 base p bo mcap m G K ln T) {g K' at' : Nat} (hg : base ≤ g) (hgr : ∀ r, r < m → r ≠ i → G r ≠ g)
    (hrow : Row w1 9 g (ln i) K' (fun j => .string (T i j))) (hat : at' < ln i) {cur : List Value} (hcur : w1.heap[g]? = some (.cells cur.toArray 9 (0, 0)))
    (hw : w4 = w1.drew.setRow g (cur.take at' ++ (movedV (fun j => .string (T i j)) at' (ln i) ++ cur.drop (at' + (ln i - 1 - at')))).toArray) :
    Below base w1 w4 ∧ Row w4 38 p 1 1 (fun _ => .slice (some ⟨bo, 0, none⟩) m mcap) ∧ Row w4 27 bo m mcap (runV G ln K) ∧ Row w4 9 g (ln i) K' (shiftV (fun j => .string (T i j)) at' (ln i)) ∧
      ∀ r, r < m → r ≠ i → Row w4 9 (G r) (ln r) (K r) (fun j => .string (T r j)) := by
  subst hw
  refine ⟨below_setRow ((Below.refl _ _).drew) hg _, ?_, ?_, ?_, fun r hr hri => ?_⟩
  · exact Row.setRow_other (w := w1.drew) h.ptr (h.ptr.ne hrow (by decide)) _
  · exact Row.setRow_other (w := w1.drew) h.rs.outer (h.rs.outer.ne hrow (by decide)) _
  · exact Row.shifted (w := w1.drew) hrow hat cur hcur
  · exact Row.setRow_other (w := w1.drew) (h.rs.inner r hr).2 (hgr r hr hri) _

theorem take_end {w w1 w4 : World} {base p bo mcap m i at' g K' : Nat} {G K ln : Nat → Nat} {T : Nat → Nat → ByteArray} (h : St w base p bo mcap m G K ln T) (hi : i < m) (hat : at' < ln i) (h1 : 1 < ln i) (hbase : base ≤ w.heap.size) (hb1 : Below w.heap.size w w1)
    (hg : base ≤ g) (hgr : ∀ r, r < m → r ≠ i → G r ≠ g) (hK' : K' ≤ 100000) (hb4 : Below base w1 w4) (hptr4 : Row w4 38 p 1 1 (fun _ => .slice (some ⟨bo, 0, none⟩) m mcap)) (hout4 : Row w4 27 bo m mcap (runV G ln K))
    (hrow4 : Row w4 9 g (ln i) K' (shiftV (fun j => .string (T i j)) at' (ln i))) (hin4 : ∀ r, r < m → r ≠ i → Row w4 9 (G r) (ln r) (K r) (fun j => .string (T r j))) :
    TakeW w base p bo mcap m i at' ln T (((w4.setCell ⟨g, ln i - 1, none⟩ (.string { data := #[] })).setCell ⟨bo, i, none⟩ (.slice (some ⟨g, 0, none⟩) (ln i - 1) K')).drew) := by
  have hlk := hrow4.fits
  have hmc := hout4.fits
  refine ⟨m, upd i g G, upd i K' K, _, _, ⟨?_, h.lowp, ⟨h.rs.low, ?_, fun r hr => ?_, fun r q hr hq e => ?_⟩, h.capm, fun r hr => ?_⟩, ?_, Or.inr ⟨by omega, rfl, rfl, rfl⟩⟩
  · exact (hptr4.other (a := ⟨g, ln i - 1, none⟩) (hptr4.ne hrow4 (by decide)) _).other (a := ⟨bo, i, none⟩) (hptr4.ne hout4 (by decide)) _
  · refine ((hout4.other (a := ⟨g, ln i - 1, none⟩) (hout4.ne hrow4 (by decide)) (.string { data := #[] })).set (j := i) (by omega) _).congr (fun j hj => ?_)
    unfold runV
    by_cases c : j = i
    · subst c
      rw [if_pos rfl, upd_same, upd_same, upd_same]
    · rw [if_neg c, upd_ne c, upd_ne c, upd_ne c]
  · by_cases c : r = i
    · subst c
      rw [upd_same, upd_same, upd_same, upd_same]
      refine ⟨hg, (((hrow4.set (j := ln r - 1) (by omega) (.string { data := #[] })).other (a := ⟨bo, r, none⟩) (hrow4.ne hout4 (by decide)) _).shrink (Nat.sub_le _ _)).congr (fun j hj => ?_)⟩
      rw [if_neg (by omega)]
      unfold shiftV
      by_cases c2 : j < at'
      · rw [if_neg (by omega), sh_lt c2]
      · rw [if_pos (by omega), sh_ge c2]
    · rw [upd_ne c, upd_ne c, upd_ne c, upd_ne c]
      exact ⟨(h.rs.inner r hr).1, ((hin4 r hr c).other (a := ⟨g, ln i - 1, none⟩) (hgr r hr c) _).other (a := ⟨bo, i, none⟩) ((hin4 r hr c).ne hout4 (by decide)) _⟩
  · by_cases c1 : r = i
    · by_cases c2 : q = i
      · omega
      · subst c1
        rw [upd_same, upd_ne c2] at e
        exact absurd e.symm (hgr q hq c2)
    · by_cases c2 : q = i
      · subst c2
        rw [upd_same, upd_ne c1] at e
        exact absurd e (hgr r hr c1)
      · rw [upd_ne c1, upd_ne c2] at e
        exact h.rs.apart r q hr hq e
  · by_cases c : r = i
    · subst c; rw [upd_same]; exact hK'
    · rw [upd_ne c]; exact h.caps r hr
  · exact ((((hb1.mono hbase).trans hb4).setCell hg _).setCell h.rs.low _).drew

set_option maxHeartbeats 4000000 in
theorem takeOut_any (base p bo mcap m i at' : Nat) (G K ln : Nat → Nat) (T : Nat → Nat → ByteArray) (w : World) (hi : i < m) (hat : at' < ln i) (h : St w base p bo mcap m G K ln T) (hbase : base ≤ w.heap.size) :
    Calls Try.prog 15 #[.pointer (some ⟨p, 0, none⟩), .int .i64 (i : Int), .int .i64 (at' : Int)] w fun e w' => e = .returned (.tuple #[]) ∧ TakeW w base p bo mcap m i at' ln T w' := by
  have hcp := h.ptr.cell (j := 0) (by omega)
  have hci : w.cell? ⟨bo, i, none⟩ = some (.slice (some ⟨G i, 0, none⟩) (ln i) (K i)) := h.rs.outer.cell hi
  have hmc := h.rs.outer.fits
  have hcm := h.capm
  have hKi := h.caps i hi
  have hlk := (h.rs.inner i hi).2.fits
  by_cases h1 : ln i = 1
  · have h1' : ((ln i : Int) == 1) = true := by simp; omega
    go_enter Try.func15, Try.ntmps15
    go_wp2_with fail
    refine (dropRun_any base p bo mcap m i G K ln T w hi h).mono ?_
    rintro e w1 ⟨rfl, hb, hs, hst⟩
    have HST : Hid (TakeW w base p bo mcap m i at' ln T w1) := ⟨_, _, _, _, _, hst, hb, Or.inl ⟨h1, rfl, rfl, rfl⟩⟩
    clear hst
    go_wp2
    refine bodyPost_ret (results_none rfl _ _ _) rfl ?_
    exact ⟨rfl, HST.out⟩
  · have h1' : ((ln i : Int) == 1) = false := by simp; omega
    have h1'' : 1 < ln i := by omega
    go_enter Try.func15, Try.ntmps15
    go_wp2_with fail
    refine (ownRun_any (G i) (ln i) (K i) (T i) w hKi (h.rs.inner i hi).2).mono ?_
    rintro e w1 ⟨g, K', rfl, hb1, hrow, hgg, hK'⟩
    have h' := h.below hb1
    have hg : base ≤ g := by
      rcases hgg with e | e
      · rw [e]; exact (h.rs.inner i hi).1
      · omega
    have hgr : ∀ r, r < m → r ≠ i → G r ≠ g := fun r hr hri e => by
      rcases hgg with e' | e'
      · exact hri (h.rs.apart r i hr hi (e.trans e'))
      · have := (h.rs.inner r hr).2.lt
        omega
    have hlk' := hrow.fits
    have hrowc := hrow
    obtain ⟨cur, hcur, hcl, _, _⟩ := hrowc
    have hsrc := movedV_src hrow at'
    have hone := movedV_one (V := fun j => .string (T i j)) (i := at') (len := ln i) (fun _ _ => rfl)
    have hlen := movedV_length (fun j => .string (T i j)) at' (ln i)
    have him : at' ≤ ln i := by omega
    have hic : ¬ K' = at' := by omega
    have hwr : IntKind.i64.wrap ((at' : Int) + 1) = (at' : Int) + 1 := by rw [IntKind.wrap_i64]; omega
    have hp0 : (0 : Int) ≤ (at' : Int) + 1 := by omega
    have hp1 : (at' : Int) + 1 ≤ (ln i : Int) := by omega
    have hp2 : ((at' : Int) + 1).toNat = at' + 1 := by omega
    have hmin : ln i - 1 - at' = Nat.min (ln i - (at' + 1)) (ln i - at') := by show _ = min _ _; omega
    have hfit : at' + (ln i - 1 - at') ≤ cur.length := by omega
    obtain ⟨A, hA⟩ : ∃ A : Option Addr, (if K' = at' + 1 then some (⟨g, 0, none⟩ : Addr) else some ⟨g, at' + 1, none⟩) = A := ⟨_, rfl⟩
    clear hcp hci h1
    go_wp2_with fail
    go_region_law (refine step_copy_exact rfl (.tmp 24) (.tmp 28) 27 27 rfl 9 Try.underlying27 Try.size9 (some ⟨g, at', none⟩) A (ln i - at') (K' - at') (ln i - (at' + 1)) (K' - (at' + 1)) (by simp [Act.eval, Act.put]) (by simp [Act.eval, Act.put]) g at' (ln i - 1 - at') cur 9 hcur (movedV (fun j => .string (T i j)) at' (ln i)) hlen hmin (copy_pos hsrc hlk' rfl hA.symm) hfit hone ?_; intro w4 hw4)
    obtain ⟨hb4, hptr4, hout4, hrow4, hin4⟩ := take_mid h' hg hgr hrow hat hcur hw4.out
    obtain ⟨v0, hv0⟩ := hrow4.ex (j := ln i - 1) (by omega)
    have hf0 := hrow4.free (ln i - 1)
    have hcp5 : (w4.setCell ⟨g, ln i - 1, none⟩ (.string { data := #[] })).cell? ⟨p, 0, none⟩ = some (.slice (some ⟨bo, 0, none⟩) m mcap) := (hptr4.other (hptr4.ne hrow4 (by decide)) _).cell (j := 0) (by omega)
    have hco5 : (w4.setCell ⟨g, ln i - 1, none⟩ (.string { data := #[] })).cell? ⟨bo, i, none⟩ = some (.slice (some ⟨G i, 0, none⟩) (ln i) (K i)) := (hout4.other (hout4.ne hrow4 (by decide)) _).cell hi
    have hfo5 : (w4.setCell ⟨g, ln i - 1, none⟩ (.string { data := #[] })).frozen? ⟨bo, i, none⟩ = false := (hout4.other (hout4.ne hrow4 (by decide)) _).free i
    have hmw : IntKind.i64.wrap ((ln i : Int) - 1) = (ln i : Int) - 1 := by rw [IntKind.wrap_i64]; omega
    have hm0 : (0 : Int) ≤ (ln i : Int) - 1 := by omega
    have hm1 : (ln i : Int) - 1 < (ln i : Int) := by omega
    have hm2 : ((ln i : Int) - 1).toNat = ln i - 1 := by omega
    have hm3 : (ln i : Int) - 1 ≤ (K' : Int) := by omega
    have him' : (i : Int) < (m : Int) := by omega
    have HB := hb1
    clear hcur hrow hsrc hone hlen hw4 hcl hA hmin hfit
    go_wp2_with fail
    go_region
    go_end0
    exact ⟨rfl, take_end h hi hat h1'' hbase hb1 hg hgr hK' hb4 hptr4 hout4 hrow4 hin4⟩

theorem zzTakeOut_any (base p bo mcap m i at' : Nat) (G K ln : Nat → Nat) (T : Nat → Nat → ByteArray) (w : World) (hi : i < m) (hat : at' < ln i) (h : St w base p bo mcap m G K ln T) (hbase : base ≤ w.heap.size) :
    Calls Try.prog 12 #[.pointer (some ⟨p, 0, none⟩), .int .i64 (i : Int), .int .i64 (at' : Int)] w fun e w' => e = .returned (.tuple #[]) ∧ TakeW w base p bo mcap m i at' ln T w' := by
  go_enter Try.func12, Try.ntmps12
  go_wp2_with fail
  refine (takeOut_any base p bo mcap m i at' G K ln T w hi hat h hbase).mono ?_
  rintro e w1 ⟨rfl, ht⟩
  have HT : Hid (TakeW w base p bo mcap m i at' ln T w1) := ht
  clear ht
  go_wp2
  go_end0
  exact ⟨rfl, HT.out⟩

theorem zzRuns_any (p : Nat) (v : Value) (w : World) (h : w.cell? ⟨p, 0, none⟩ = some v) :
    Calls Try.prog 11 #[.pointer (some ⟨p, 0, none⟩)] w fun e w' => e = .returned v ∧ w' = w := by
  go_enter Try.func11, Try.ntmps11
  go_wp2
  go_ret
  exact ⟨rfl, rfl⟩

theorem zzNew_any (a : Option Addr) (m c : Nat) (w : World) :
    Calls Try.prog 9 #[.slice a m c] w fun e w' => e = .returned (.pointer (some ⟨w.heap.size, 0, none⟩)) ∧ w' = w.alloc (.cells #[.slice a m c] 38) := by
  go_enter Try.func9, Try.ntmps9
  go_wp2
  go_ret
  exact ⟨rfl, rfl⟩

theorem ptr_new (v : Value) (w : World) : Row (w.alloc (.cells #[v] 38)) 38 w.heap.size 1 1 (fun _ => v) :=
  ⟨[v], heap_alloc_new w _, rfl, Nat.le_refl _, fun j hj => by
    have : j = 0 := by omega
    subst this; rfl⟩
end Go.Proofs.Qxb6617287a
