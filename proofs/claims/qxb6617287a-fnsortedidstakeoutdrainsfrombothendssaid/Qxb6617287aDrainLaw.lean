import Derived.Test.Qxb6617287aDrain
import Derived.WalkSmall
namespace Go.Proofs.Qxb6617287a
open Go.RowKit

theorem zzRuns_keep (p : Nat) (v : Value) (w : World) (h : w.cell? ⟨p, 0, none⟩ = some v) :
    Calls Try.prog 11 #[.pointer (some ⟨p, 0, none⟩)] w fun e w' => e = .returned v ∧ w = w' := (zzRuns_any p v w h).mono fun _ _ ⟨h1, h2⟩ => ⟨h1, h2.symm⟩

theorem zzTakeOut_front (base p bo mcap m : Nat) (G K ln : Nat → Nat) (T : Nat → Nat → ByteArray) (w : World) (hi : 0 < m) (hat : 0 < ln 0) (h : St w base p bo mcap m G K ln T) (hbase : base ≤ w.heap.size) :
    Calls Try.prog 12 #[.pointer (some ⟨p, 0, none⟩), .int .i64 0, .int .i64 0] w fun e w' => e = .returned (.tuple #[]) ∧ TakeW w base p bo mcap m 0 0 ln T w' :=
  zzTakeOut_any base p bo mcap m 0 0 G K ln T w hi hat h hbase

set_option maxRecDepth 100000 in
set_option maxHeartbeats 4000000 in
theorem drain_some (b off n cap : Nat) (A : Nat → Option Addr) (L C IB JO : Nat → Nat) (S : Nat → Nat → ByteArray) (bf of lf cf : Nat) (fb : Nat → Bool) (w : World) (hn : n ≤ maxLen) (hlf : lf ≤ maxLen) (hR : RunsW w b off n A L C IB JO S) (hfc : ∀ k, k < lf → w.cell? ⟨bf, of + k, none⟩ = some (.bool (fb k))) :
    Calls Try.prog 3 #[.slice (some ⟨b, off, none⟩) n cap, .slice (some ⟨bf, of, none⟩) lf cf] w fun e w' => e = .returned (.bool true) ∧ Below w.heap.size w w' := by
  have hlf' := hlf
  unfold maxLen at hlf'
  go_enter Try.func3, Try.ntmps3
  go_wp2_with fail
  refine (zzb5_some b off n cap A L C IB JO S (some ⟨bf, of, none⟩) lf cf w hn hlf hR).mono ?_
  rintro e w' ⟨⟨q, rfl⟩, rfl⟩
  cases q with
  | false =>
    clear hR
    go_wp2
    go_ret
    exact ⟨rfl, Below.refl _ _⟩
  | true =>
    by_cases hl1 : 65536 < lf
    · have hl2 : (65536 : Int) < (lf : Int) := by omega
      clear hR
      go_wp2
      go_ret
      exact ⟨rfl, Below.refl _ _⟩
    have hl2 : ¬ (65536 : Int) < (lf : Int) := by omega
    go_wp2_with fail
    refine (tooBig_some b off n cap A L C IB JO S (lf : Int) w' hn hR).mono ?_
    rintro e w2 ⟨⟨q, rfl, hq⟩, rfl⟩
    cases q with
    | true =>
      clear hR hq
      go_wp2
      go_ret
      exact ⟨rfl, Below.refl _ _⟩
    | false =>
      obtain ⟨hn1, hN16⟩ := hq rfl
      have hN : sumL L n ≤ 65536 := by omega
      clear hq
      go_wp2_with fail
      refine (noEmpty_some b off n cap A L C IB JO S w2 hn hR).mono ?_
      rintro e w3 ⟨⟨q, rfl, hq⟩, rfl⟩
      cases q with
      | false =>
        clear hR hq
        go_wp2
        go_ret
        exact ⟨rfl, Below.refl _ _⟩
      | true =>
        have hpos := hq rfl
        clear hq
        go_wp2_with fail
        refine (flat_some b off n cap A L C IB JO S w3 hn1 hN hR).mono ?_
        rintro e wA ⟨rfl, hbA, hown⟩
        have hall := allC_of hown rfl
        have hlA := (hown.lt _ rfl).2
        have hRA := hR.below hbA
        have hLL : ∀ r, r < n → L r ≤ 65536 := fun r hr => Nat.le_trans (le_sumL L hr) hN
        clear hown
        go_wp2_with fail
        refine (copyRuns_some b off n cap A L C IB JO S wA hn1 (fun r hr => ⟨hpos r hr, hLL r hr⟩) hRA).mono ?_
        rintro e wB ⟨rfl, hbB, G, hrs⟩
        go_wp2_with fail
        refine (zzNew_any _ _ _ wB).mono ?_
        rintro e wC ⟨rfl, hwC⟩
        have hst : St wC wA.heap.size wB.heap.size wA.heap.size n n G L L S := by rw [hwC]; exact st_new hrs hbB hn1 hLL
        have hbC : Below wA.heap.size wA wC := by rw [hwC]; exact hbB.alloc hbB.size _
        clear hwC hrs hRA hR hbB
        generalize hp : wB.heap.size = p at hst ⊢
        clear hp
        obtain ⟨F, hF⟩ : ∃ F, F = flatL S L n := ⟨_, rfl⟩
        have hFl : F.length = sumL L n := by rw [hF, length_flatL]
        have hdr : Dr F 0 0 n L S := ⟨Nat.zero_le _, Nat.le_refl _, by rw [hF]; simp, hpos⟩
        rw [← hF] at hall
        obtain ⟨N, hNe⟩ : ∃ N, N = sumL L n := ⟨_, rfl⟩
        rw [← hNe] at hN hFl ⊢
        have HNF : Hid (F.length = N) := hFl
        have hBB : w3.heap.size ≤ wA.heap.size := hbA.size
        have hallC : AllC wC w3.heap.size F := hall.below hlA hbC
        have hall0 := hall
        clear hF hFl hNe hall hpos hLL hN16
        go_wp2
        go_loopw [7, 8, 9] (fun tl th ts wr => ∃ (st lo m : Nat) (z : Int) (G K ln : Nat → Nat) (T : Nat → Nat → ByteArray), ts = .int .i64 (st : Int) ∧ tl = .int .i64 (lo : Int) ∧ th = .int .i64 z ∧ Hid (z + 1 = lo + (N : Int) - st) ∧ Dr F st lo m ln T ∧ St wr wA.heap.size p wA.heap.size n m G K ln T ∧ Below wA.heap.size wA wr) (fun _ _ ts _ => N - (intOf ts).toNat)
        case atStart => exact ⟨0, 0, n, _, G, L, L, S, rfl, rfl, rfl, show _ = _ by omega, hdr, hst, hbC⟩
        case round =>
          clear hdr hst hallC
          obtain ⟨st, lo, m, z, G, K, ln, T, rfl, rfl, rfl, HZ, hdr, hst, hbr⟩ := hrel
          have hle := hdr.le
          have hlo := hdr.low
          rw [HNF.out] at hle
          have hcp := hst.ptr.cell (j := 0) (by omega)
          have hmc := hst.rs.outer.fits
          have hallr : AllC wr w3.heap.size F := hall0.below hlA hbr
          have hbw : Below w3.heap.size w3 wr := hbA.trans (hbr.mono hBB)
          have hbase := hbr.size
          by_cases hlt : st < N
          · have hlt' : st < F.length := by rw [HNF.out]; exact hlt
            have hm := hdr.isSome hlt'
            have hm0 : ((m : Int) == 0) = false := by simp; omega
            obtain ⟨h, hh⟩ : ∃ h : Nat, z = (h : Int) := ⟨z.toNat, by have := HZ.out; omega⟩
            subst hh
            have hhN : h < N := by have := HZ.out; omega
            by_cases hsf : st < lf
            · have hcf : wr.cell? ⟨bf, of + st, none⟩ = some (.bool (fb st)) := by
                have h1 := hfc st hsf
                rw [hbw.cell (World.block_lt_of_cell? _ _ h1)]; exact h1
              have hsfi : (st : Int) < (lf : Int) := by omega
              cases hfb : fb st with
              | true =>
                rw [hfb] at hcf
                clear hfb
                have hX := hdr.back hlt'
                have hll : 0 < ln (m - 1) := hdr.pos (m - 1) (by omega)
                obtain ⟨r, hr⟩ : ∃ r, r = m - 1 := ⟨_, rfl⟩
                have hrm : r < m := by omega
                rw [← hr] at hX hll
                have hcr : wr.cell? ⟨wA.heap.size, r, none⟩ = some (.slice (some ⟨G r, 0, none⟩) (ln r) (K r)) := hst.rs.outer.cell hrm
                obtain ⟨l, hl⟩ : ∃ l, l = ln r := ⟨_, rfl⟩
                have hl01 : ((l : Int) == 0) = false := by simp; omega
                have hcs : wr.cell? ⟨G r, l - 1, none⟩ = some (.string (T r (l - 1))) := (hst.rs.inner r hrm).2.cell (by omega)
                have hlK := (hst.rs.inner r hrm).2.fits
                have hKr := hst.caps r hrm
                have hXh : lo + (F.length - st) - 1 = h := by rw [HNF.out]; have := HZ.out; omega
                rw [hXh, ← hl] at hX
                have hca := hallr h _ hX
                rw [← hl] at hcr hlK hll
                have hmr : (m : Int) - 1 = (r : Int) := by omega
                have hlr : (l : Int) - 1 = ((l - 1 : Nat) : Int) := by omega
                have hri : (r : Int) < (m : Int) := by omega
                have hli : (l : Int) - 1 < (l : Int) := by omega
                have hli0 : (0 : Int) ≤ (l : Int) - 1 := by omega
                have hhi : (h : Int) < (N : Int) := by omega
                have HR : Hid (r = m - 1) := hr
                have HL : Hid (l = ln r) := hl
                clear hX hallr hXh hl hr
                have hwl : IntKind.i64.wrap ((l : Int) - 1) = ((l - 1 : Nat) : Int) := by rw [IntKind.wrap_i64]; omega
                have hl1l : l - 1 < l := by omega
                go_wp2_with (go_at_call 11; refine (zzRuns_keep _ _ _ hcp).mono ?_; rintro e w' ⟨rfl, rfl⟩)
                go_quiet (fail)
                go_wp2_with fail
                refine (zzTakeOut_any wA.heap.size p wA.heap.size n m r (l - 1) G K ln T _ hrm (by rw [← HL.out]; omega) (hst.below (below_drewN (Below.refl _ _) _)) hbase).mono ?_
                rintro e w5 ⟨rfl, m', G', K', ln', T', hst', hb', htp⟩
                have hbr' := (below_drewN hbr _).trans hb'
                have hdr' := hdr.stepBack hlt' (by rw [← HR.out, ← HL.out]; exact htp)
                clear hst hdr hcp hcr hcs hca hbr hb' htp hbw hl01 hmr hlr hwl
                go_wp2
                go_roundw
                case rel => exact ⟨st + 1, lo, m', _, G', K', ln', T', by go_num, rfl, rfl, show _ = _ by have := HZ.out; omega, hdr', hst', hbr'⟩
                case measure => simp [intOf]; omega
              | false =>
                rw [hfb] at hcf
                clear hfb
                have hX := hdr.front hlt'
                have hc0 : wr.cell? ⟨wA.heap.size, 0, none⟩ = some (.slice (some ⟨G 0, 0, none⟩) (ln 0) (K 0)) := hst.rs.outer.cell hm
                have hl00 := hdr.pos 0 hm
                have hl01 : ((ln 0 : Int) == 0) = false := by simp; omega
                have hcs : wr.cell? ⟨G 0, 0, none⟩ = some (.string (T 0 0)) := (hst.rs.inner 0 hm).2.cell hl00
                have hca := hallr lo _ hX
                have hloN : lo < N := by omega
                have hl0i : (0 : Int) < (ln 0 : Int) := by omega
                have hm1 : (0 : Int) < (m : Int) := by omega
                have hloi : (lo : Int) < (N : Int) := by omega
                clear hX hallr
                go_wp2_with (go_at_call 11; refine (zzRuns_keep _ _ _ hcp).mono ?_; rintro e w' ⟨rfl, rfl⟩)
                go_quiet (fail)
                go_wp2_with fail
                refine (zzTakeOut_front wA.heap.size p wA.heap.size n m G K ln T _ hm hl00 (hst.below (below_drewN (Below.refl _ _) _)) hbase).mono ?_
                rintro e w5 ⟨rfl, m', G', K', ln', T', hst', hb', htp⟩
                have hbr' := (below_drewN hbr _).trans hb'
                have hdr' := hdr.stepFront hlt' htp
                clear hst hdr hcp hc0 hcs hca hbr hb' htp hbw hl00 hl01
                go_wp2
                go_roundw
                case rel => exact ⟨st + 1, lo + 1, m', _, G', K', ln', T', by go_num, by go_num, rfl, show _ = _ by have := HZ.out; omega, hdr', hst', hbr'⟩
                case measure => simp [intOf]; omega
            · have hsfi : decide (st < lf) = false := by simp; omega
              have hX := hdr.front hlt'
              have hc0 : wr.cell? ⟨wA.heap.size, 0, none⟩ = some (.slice (some ⟨G 0, 0, none⟩) (ln 0) (K 0)) := hst.rs.outer.cell hm
              have hl00 := hdr.pos 0 hm
              have hl01 : ((ln 0 : Int) == 0) = false := by simp; omega
              have hcs : wr.cell? ⟨G 0, 0, none⟩ = some (.string (T 0 0)) := (hst.rs.inner 0 hm).2.cell hl00
              have hca := hallr lo _ hX
              have hloN : lo < N := by omega
              have hl0i : (0 : Int) < (ln 0 : Int) := by omega
              have hm1 : (0 : Int) < (m : Int) := by omega
              have hloi : (lo : Int) < (N : Int) := by omega
              clear hX hallr
              go_wp2_with (go_at_call 11; refine (zzRuns_keep _ _ _ hcp).mono ?_; rintro e w' ⟨rfl, rfl⟩)
              go_quiet (fail)
              go_wp2_with fail
              refine (zzTakeOut_front wA.heap.size p wA.heap.size n m G K ln T _ hm hl00 (hst.below (below_drewN (Below.refl _ _) _)) hbase).mono ?_
              rintro e w5 ⟨rfl, m', G', K', ln', T', hst', hb', htp⟩
              have hbr' := (below_drewN hbr _).trans hb'
              have hdr' := hdr.stepFront hlt' htp
              clear hst hdr hcp hc0 hcs hca hbr hb' htp hbw hl00 hl01
              go_wp2
              go_roundw
              case rel => exact ⟨st + 1, lo + 1, m', _, G', K', ln', T', by go_num, by go_num, rfl, show _ = _ by have := HZ.out; omega, hdr', hst', hbr'⟩
              case measure => simp [intOf]; omega
          · have hm := hdr.isNone (by rw [HNF.out]; omega)
            have hm' : m = 0 := hm
            subst hm'
            clear hm hallr hbase hmc hdr hst
            go_wp2_with (go_at_call 11; refine (zzRuns_keep _ _ _ hcp).mono ?_; rintro e w' ⟨rfl, rfl⟩)
            go_ret
            exact ⟨ret_bool (by simp), hbw⟩

set_option maxRecDepth 100000 in
set_option maxHeartbeats 4000000 in
theorem drain_none (b off n cap : Nat) (A : Nat → Option Addr) (L C IB JO : Nat → Nat) (S : Nat → Nat → ByteArray) (a1 : Option Addr) (lf cf : Nat) (w : World) (hn : n ≤ maxLen) (hlf : lf ≤ maxLen) (hR : RunsW w b off n A L C IB JO S) (hl0 : lf ≤ 0) :
    Calls Try.prog 3 #[.slice (some ⟨b, off, none⟩) n cap, .slice a1 lf cf] w fun e w' => e = .returned (.bool true) ∧ Below w.heap.size w w' := by
  have hlf' := hlf
  unfold maxLen at hlf'
  go_enter Try.func3, Try.ntmps3
  go_wp2_with fail
  refine (zzb5_some b off n cap A L C IB JO S a1 lf cf w hn hlf hR).mono ?_
  rintro e w' ⟨⟨q, rfl⟩, rfl⟩
  cases q with
  | false =>
    clear hR
    go_wp2
    go_ret
    exact ⟨rfl, Below.refl _ _⟩
  | true =>
    by_cases hl1 : 65536 < lf
    · have hl2 : (65536 : Int) < (lf : Int) := by omega
      clear hR
      go_wp2
      go_ret
      exact ⟨rfl, Below.refl _ _⟩
    have hl2 : ¬ (65536 : Int) < (lf : Int) := by omega
    go_wp2_with fail
    refine (tooBig_some b off n cap A L C IB JO S (lf : Int) w' hn hR).mono ?_
    rintro e w2 ⟨⟨q, rfl, hq⟩, rfl⟩
    cases q with
    | true =>
      clear hR hq
      go_wp2
      go_ret
      exact ⟨rfl, Below.refl _ _⟩
    | false =>
      obtain ⟨hn1, hN16⟩ := hq rfl
      have hN : sumL L n ≤ 65536 := by omega
      clear hq
      go_wp2_with fail
      refine (noEmpty_some b off n cap A L C IB JO S w2 hn hR).mono ?_
      rintro e w3 ⟨⟨q, rfl, hq⟩, rfl⟩
      cases q with
      | false =>
        clear hR hq
        go_wp2
        go_ret
        exact ⟨rfl, Below.refl _ _⟩
      | true =>
        have hpos := hq rfl
        clear hq
        go_wp2_with fail
        refine (flat_some b off n cap A L C IB JO S w3 hn1 hN hR).mono ?_
        rintro e wA ⟨rfl, hbA, hown⟩
        have hall := allC_of hown rfl
        have hlA := (hown.lt _ rfl).2
        have hRA := hR.below hbA
        have hLL : ∀ r, r < n → L r ≤ 65536 := fun r hr => Nat.le_trans (le_sumL L hr) hN
        clear hown
        go_wp2_with fail
        refine (copyRuns_some b off n cap A L C IB JO S wA hn1 (fun r hr => ⟨hpos r hr, hLL r hr⟩) hRA).mono ?_
        rintro e wB ⟨rfl, hbB, G, hrs⟩
        go_wp2_with fail
        refine (zzNew_any _ _ _ wB).mono ?_
        rintro e wC ⟨rfl, hwC⟩
        have hst : St wC wA.heap.size wB.heap.size wA.heap.size n n G L L S := by rw [hwC]; exact st_new hrs hbB hn1 hLL
        have hbC : Below wA.heap.size wA wC := by rw [hwC]; exact hbB.alloc hbB.size _
        clear hwC hrs hRA hR hbB
        generalize hp : wB.heap.size = p at hst ⊢
        clear hp
        obtain ⟨F, hF⟩ : ∃ F, F = flatL S L n := ⟨_, rfl⟩
        have hFl : F.length = sumL L n := by rw [hF, length_flatL]
        have hdr : Dr F 0 0 n L S := ⟨Nat.zero_le _, Nat.le_refl _, by rw [hF]; simp, hpos⟩
        rw [← hF] at hall
        obtain ⟨N, hNe⟩ : ∃ N, N = sumL L n := ⟨_, rfl⟩
        rw [← hNe] at hN hFl ⊢
        have HNF : Hid (F.length = N) := hFl
        have hBB : w3.heap.size ≤ wA.heap.size := hbA.size
        have hallC : AllC wC w3.heap.size F := hall.below hlA hbC
        have hall0 := hall
        clear hF hFl hNe hall hpos hLL hN16
        go_wp2
        go_loopw [7, 8, 9] (fun tl th ts wr => ∃ (st lo m : Nat) (z : Int) (G K ln : Nat → Nat) (T : Nat → Nat → ByteArray), ts = .int .i64 (st : Int) ∧ tl = .int .i64 (lo : Int) ∧ th = .int .i64 z ∧ Hid (z + 1 = lo + (N : Int) - st) ∧ Dr F st lo m ln T ∧ St wr wA.heap.size p wA.heap.size n m G K ln T ∧ Below wA.heap.size wA wr) (fun _ _ ts _ => N - (intOf ts).toNat)
        case atStart => exact ⟨0, 0, n, _, G, L, L, S, rfl, rfl, rfl, show _ = _ by omega, hdr, hst, hbC⟩
        case round =>
          clear hdr hst hallC
          obtain ⟨st, lo, m, z, G, K, ln, T, rfl, rfl, rfl, HZ, hdr, hst, hbr⟩ := hrel
          have hle := hdr.le
          have hlo := hdr.low
          rw [HNF.out] at hle
          have hcp := hst.ptr.cell (j := 0) (by omega)
          have hmc := hst.rs.outer.fits
          have hallr : AllC wr w3.heap.size F := hall0.below hlA hbr
          have hbw : Below w3.heap.size w3 wr := hbA.trans (hbr.mono hBB)
          have hbase := hbr.size
          by_cases hlt : st < N
          · have hlt' : st < F.length := by rw [HNF.out]; exact hlt
            have hm := hdr.isSome hlt'
            have hm0 : ((m : Int) == 0) = false := by simp; omega
            obtain ⟨h, hh⟩ : ∃ h : Nat, z = (h : Int) := ⟨z.toNat, by have := HZ.out; omega⟩
            subst hh
            have hhN : h < N := by have := HZ.out; omega
            have hsfi : decide (st < lf) = false := by simp; omega
            have hX := hdr.front hlt'
            have hc0 : wr.cell? ⟨wA.heap.size, 0, none⟩ = some (.slice (some ⟨G 0, 0, none⟩) (ln 0) (K 0)) := hst.rs.outer.cell hm
            have hl00 := hdr.pos 0 hm
            have hl01 : ((ln 0 : Int) == 0) = false := by simp; omega
            have hcs : wr.cell? ⟨G 0, 0, none⟩ = some (.string (T 0 0)) := (hst.rs.inner 0 hm).2.cell hl00
            have hca := hallr lo _ hX
            have hloN : lo < N := by omega
            have hl0i : (0 : Int) < (ln 0 : Int) := by omega
            have hm1 : (0 : Int) < (m : Int) := by omega
            have hloi : (lo : Int) < (N : Int) := by omega
            clear hX hallr
            go_wp2_with (go_at_call 11; refine (zzRuns_keep _ _ _ hcp).mono ?_; rintro e w' ⟨rfl, rfl⟩)
            go_quiet (fail)
            go_wp2_with fail
            refine (zzTakeOut_front wA.heap.size p wA.heap.size n m G K ln T _ hm hl00 (hst.below (below_drewN (Below.refl _ _) _)) hbase).mono ?_
            rintro e w5 ⟨rfl, m', G', K', ln', T', hst', hb', htp⟩
            have hbr' := (below_drewN hbr _).trans hb'
            have hdr' := hdr.stepFront hlt' htp
            clear hst hdr hcp hc0 hcs hca hbr hb' htp hbw hl00 hl01
            go_wp2
            go_roundw
            case rel => exact ⟨st + 1, lo + 1, m', _, G', K', ln', T', by go_num, by go_num, rfl, show _ = _ by have := HZ.out; omega, hdr', hst', hbr'⟩
            case measure => simp [intOf]; omega
          · have hm := hdr.isNone (by rw [HNF.out]; omega)
            have hm' : m = 0 := hm
            subst hm'
            clear hm hallr hbase hmc hdr hst
            go_wp2_with (go_at_call 11; refine (zzRuns_keep _ _ _ hcp).mono ?_; rintro e w' ⟨rfl, rfl⟩)
            go_ret
            exact ⟨ret_bool (by simp), hbw⟩

set_option maxRecDepth 100000 in
set_option maxHeartbeats 1000000 in
theorem drain_zero (x : Addr) (cap : Nat) (a1 : Option Addr) (lf cf : Nat) (w : World) (hlf : lf ≤ maxLen) :
    Calls Try.prog 3 #[.slice (some x) 0 cap, .slice a1 lf cf] w fun e w' => e = .returned (.bool true) ∧ Below w.heap.size w w' := by
  have hlf' := hlf
  unfold maxLen at hlf'
  go_enter Try.func3, Try.ntmps3
  go_wp2_with fail
  refine (zzb5_zero (some x) cap a1 lf cf w hlf).mono ?_
  rintro e w' ⟨⟨q, rfl⟩, rfl⟩
  cases q with
  | false =>
    go_wp2
    go_ret
    exact ⟨rfl, Below.refl _ _⟩
  | true =>
    by_cases hl1 : 65536 < lf
    · have hl2 : (65536 : Int) < (lf : Int) := by omega
      go_wp2
      go_ret
      exact ⟨rfl, Below.refl _ _⟩
    have hl2 : ¬ (65536 : Int) < (lf : Int) := by omega
    go_wp2_with fail
    refine (tooBig_zero (some x) cap (lf : Int) w').mono ?_
    rintro e w2 ⟨⟨q, rfl⟩, rfl⟩
    cases q with
    | true =>
      go_wp2
      go_ret
      exact ⟨rfl, Below.refl _ _⟩
    | false =>
      go_wp2_with fail
      refine (noEmpty_zero (some x) cap w2).mono ?_
      rintro e w3 ⟨rfl, rfl⟩
      go_wp2_with fail
      refine (flat_zero (some x) cap w3).mono ?_
      rintro e wA ⟨rfl, hbA⟩
      go_wp2_with fail
      refine (copyRuns_zero x cap wA).mono ?_
      rintro e wB ⟨rfl, hbB⟩
      go_wp2_with fail
      refine (zzNew_any _ _ _ wB).mono ?_
      rintro e wC ⟨rfl, hwC⟩
      have hcp := (ptr_new (.slice (some ⟨wA.heap.size, 0, none⟩) 0 0) wB).cell (j := 0) (by omega)
      rw [← hwC] at hcp
      have hbC : Below w3.heap.size w3 wC := by rw [hwC]; exact hbA.trans ((hbB.alloc hbB.size _).mono hbA.size)
      clear hwC hbA hbB
      go_wp2
      refine wp_loop_rounds 1 ?_
      rw [rounds_succ]
      go_wp2_with (go_at_call 11; refine (zzRuns_keep _ _ _ hcp).mono ?_; rintro e w' ⟨rfl, rfl⟩)
      go_ret
      exact ⟨ret_bool (by simp), hbC⟩

set_option maxRecDepth 100000 in
set_option maxHeartbeats 1000000 in
theorem drain_nil  (a1 : Option Addr) (lf cf : Nat) (w : World) (hlf : lf ≤ maxLen) :
    Calls Try.prog 3 #[.slice none 0 0, .slice a1 lf cf] w fun e w' => e = .returned (.bool true) ∧ Below w.heap.size w w' := by
  have hlf' := hlf
  unfold maxLen at hlf'
  go_enter Try.func3, Try.ntmps3
  go_wp2_with fail
  refine (zzb5_zero none 0 a1 lf cf w hlf).mono ?_
  rintro e w' ⟨⟨q, rfl⟩, rfl⟩
  cases q with
  | false =>
    go_wp2
    go_ret
    exact ⟨rfl, Below.refl _ _⟩
  | true =>
    by_cases hl1 : 65536 < lf
    · have hl2 : (65536 : Int) < (lf : Int) := by omega
      go_wp2
      go_ret
      exact ⟨rfl, Below.refl _ _⟩
    have hl2 : ¬ (65536 : Int) < (lf : Int) := by omega
    go_wp2_with fail
    refine (tooBig_zero none 0 (lf : Int) w').mono ?_
    rintro e w2 ⟨⟨q, rfl⟩, rfl⟩
    cases q with
    | true =>
      go_wp2
      go_ret
      exact ⟨rfl, Below.refl _ _⟩
    | false =>
      go_wp2_with fail
      refine (noEmpty_zero none 0 w2).mono ?_
      rintro e w3 ⟨rfl, rfl⟩
      go_wp2_with fail
      refine (flat_zero none 0 w3).mono ?_
      rintro e wA ⟨rfl, hbA⟩
      go_wp2_with fail
      refine (copyRuns_nil wA).mono ?_
      rintro e wB ⟨rfl, hw⟩
      have hbB : Below wA.heap.size wA wB := by rw [hw]; exact Below.refl _ _
      clear hw
      go_wp2_with fail
      refine (zzNew_any _ _ _ wB).mono ?_
      rintro e wC ⟨rfl, hwC⟩
      have hcp := (ptr_new (.slice none 0 0) wB).cell (j := 0) (by omega)
      rw [← hwC] at hcp
      have hbC : Below w3.heap.size w3 wC := by rw [hwC]; exact hbA.trans ((hbB.alloc hbB.size _).mono hbA.size)
      clear hwC hbA hbB
      go_wp2
      refine wp_loop_rounds 1 ?_
      rw [rounds_succ]
      go_wp2_with (go_at_call 11; refine (zzRuns_keep _ _ _ hcp).mono ?_; rintro e w' ⟨rfl, rfl⟩)
      go_ret
      exact ⟨ret_bool (by simp), hbC⟩

end Go.Proofs.Qxb6617287a
