import Derived.Test.Qxb6617287aReads
import Derived.Test.Qxb6617287aGuards2
import Derived.Test.Qxb6617287aLeavesPlain
import Derived.Deep.RegionWith
namespace Go.Proofs.Qxb6617287a
open Go.RowKit

theorem Try.info3 : (Try.prog.info? 3).map (fun i => (i.zero, i.size, i.bytes)) = some (some (.int .i64 0), 1, 8) := by kernel_rfl
theorem Try.info9' : (Try.prog.info? 9).map (fun i => (i.zero, i.size, i.bytes)) = some (some (.string ByteArray.empty), 1, 16) := by kernel_rfl

theorem allC_owns {w : World} {base g c cap : Nat} {F : List ByteArray} (h : w.ownsRow base 9 1 (.slice (some ⟨g, 0, none⟩) c cap) c (F.map Value.string)) : AllC w g F := by
  intro k X hk
  have hlt : k < F.length := (List.getElem?_eq_some_iff.1 hk).1
  have hc : c = F.length := by have := h.1; simp at this; omega
  rw [h.cellAt k (by omega)]
  simp [hk]

theorem zzRuns_same (p : Nat) (v : Value) (w : World) (h : w.cell? ⟨p, 0, none⟩ = some v) :
    Calls Try.prog 11 #[.pointer (some ⟨p, 0, none⟩)] w fun e w' => e = .returned v ∧ w = w' := (zzRuns_any p v w h).mono fun _ _ ⟨h1, h2⟩ => ⟨h1, h2.symm⟩

theorem reads_k (base bo mcap m : Nat) (G K ln : Nat → Nat) (T : Nat → Nat → ByteArray) (ra : Option Addr) (gw cw c : Nat) (w : World) (hm : 0 < m) (hpos : ∀ q, q < m → 0 < ln q) (hrs : Rs w base bo mcap m G K ln T) (hra : 1 < m → ra = some ⟨bo, 1, none⟩)
    (hcw : cw ≤ 100000) (hNc : c ≤ cw) (hc : c = sumL ln m) (hall : AllC w gw (flatL T ln m)) :
    Calls Try.prog 14 #[.slice (some ⟨G 0, 0, none⟩) (ln 0) (K 0), .slice ra (m - 1) (mcap - 1), .slice (some ⟨gw, 0, none⟩) c cw] w fun e w' => e = .returned (.bool true) ∧ Below w.heap.size w w' := by
  subst hc
  exact reads_any base bo mcap m G K ln T ra gw cw w hm hpos hrs hra hcw hNc hall

def intV (x : Nat) : Value := .int .i64 (x : Int)
/-- A list of ints lies in block g. -/
def LenC (w : World) (g : Nat) (F : List Nat) : Prop := ∀ (k x : Nat), F[k]? = some x → w.cell? ⟨g, k, none⟩ = some (.int .i64 (x : Int))
theorem LenC.below {w w' : World} {g B : Nat} {F : List Nat} (h : LenC w g F) (hg : g < B) (hb : Below B w w') : LenC w' g F := fun k X hk => (hb.cell (p := ⟨g, k, none⟩) hg).trans (h k X hk)
theorem lenC_owns {w : World} {base g c cap : Nat} {F : List Nat} (h : w.ownsRow base 3 1 (.slice (some ⟨g, 0, none⟩) c cap) c (F.map intV)) : LenC w g F := by
  intro k x hk
  have hlt : k < F.length := (List.getElem?_eq_some_iff.1 hk).1
  have hc : c = F.length := by have := h.1; simp at this; omega
  rw [h.cellAt k (by omega)]
  simp [hk, intV]

set_option maxRecDepth 100000 in
set_option maxHeartbeats 8000000 in
theorem leaves_main (b off n cap : Nat) (A : Nat → Option Addr) (L C IB JO : Nat → Nat) (S : Nat → Nat → ByteArray) (x y : Int) (w : World) (hn : n ≤ maxLen) (hR : RunsW w b off n A L C IB JO S) :
    Calls Try.prog 4 #[.slice (some ⟨b, off, none⟩) n cap, .int .i64 x, .int .i64 y] w fun e w' => e = .returned (.bool true) ∧ Below w.heap.size w w' := by
  have hn' := hn
  unfold maxLen at hn'
  go_enter Try.func4, Try.ntmps4
  go_wp2_with fail
  refine (zzb13_some b off n cap A L C IB JO S x y w hn hR).mono ?_
  rintro e w' ⟨⟨q, rfl⟩, rfl⟩
  cases q with
  | false =>
    clear hR
    go_wp2
    go_ret
    exact ⟨rfl, Below.refl _ _⟩
  | true =>
    go_wp2_with fail
    refine (tooBig_some b off n cap A L C IB JO S 0 w' hn hR).mono ?_
    rintro e w2 ⟨⟨q, rfl, hq⟩, rfl⟩
    cases q with
    | true =>
      clear hR hq
      go_wp2
      go_ret
      exact ⟨rfl, Below.refl _ _⟩
    | false =>
      obtain ⟨hn1, hN16⟩ := hq rfl
      have hN : sumL L n ≤ 65536 := by omega
      clear hq
      by_cases hx0 : x < 0
      · clear hR
        go_wp2
        go_ret
        exact ⟨rfl, Below.refl _ _⟩
      have hx0' : decide (x < 0) = false := by simpa using hx0
      by_cases hx1 : (n : Int) ≤ x
      · clear hR
        go_wp2
        go_ret
        exact ⟨rfl, Below.refl _ _⟩
      obtain ⟨i, rfl⟩ : ∃ i : Nat, x = (i : Int) := ⟨x.toNat, by omega⟩
      have hi : i < n := by omega
      have hdi : decide (n ≤ i) = false := by simp; omega
      have hci := (hR i hi).1
      have hLi := le_sumL L hi
      clear hx0 hx0' hx1
      by_cases hy0 : y < 0
      · clear hR
        go_wp2
        go_ret
        exact ⟨rfl, Below.refl _ _⟩
      have hy0' : decide (y < 0) = false := by simpa using hy0
      by_cases hy1 : (L i : Int) ≤ y
      · clear hR
        go_wp2
        go_ret
        exact ⟨rfl, Below.refl _ _⟩
      obtain ⟨at', rfl⟩ : ∃ a : Nat, y = (a : Int) := ⟨y.toNat, by omega⟩
      have hat : at' < L i := by omega
      have hda : decide (L i ≤ at') = false := by simp; omega
      clear hy0 hy0' hy1
      go_wp2_with fail
      refine (noEmpty_some b off n cap A L C IB JO S w2 hn hR).mono ?_
      rintro e w3 ⟨⟨q, rfl, hq⟩, rfl⟩
      cases q with
      | false =>
        clear hR hq
        go_wp2
        go_ret
        exact ⟨rfl, Below.refl _ _⟩
      | true =>
        have hpos := hq rfl
        clear hq hci hdi hda
        have HPOS : Hid (∀ r, r < n → 0 < L r) := hpos
        clear hpos
        have hpl : at' + sumL L i < sumL L n := by
          have := sumL_mono L (show i + 1 ≤ n by omega)
          simp only [sumL] at this
          omega
        go_wp2
        go_loop [7, 8] (fun tp tr => ∃ (r P : Nat), r ≤ i ∧ tr = .int .i64 (r : Int) ∧ tp = .int .i64 (P : Int) ∧ P ≤ 65536 ∧ Hid (P = at' + sumL L r)) (fun _ tr => i - (intOf tr).toNat)
        case atStart => exact ⟨0, at', by omega, rfl, rfl, by omega, rfl⟩
        case round =>
          obtain ⟨r, P, hr, rfl, rfl, hP, HP⟩ := hrel
          by_cases hlt : r < i
          · have hcr := (hR r (by omega)).1
            have hP2 : P + L r ≤ 65536 := by
              have h1 := sumL_mono L (show r + 1 ≤ i by omega)
              have h2 := HP.out
              simp only [sumL] at h1
              omega
            have R : Hid (P + L r = at' + sumL L (r + 1)) := show P + L r = at' + sumL L (r + 1) by rw [HP.out]; simp only [sumL]; omega
            clear hR HP
            go_wp2
            go_round
            case rel => exact ⟨r + 1, P + L r, by omega, by go_num, by go_num, hP2, R⟩
            case measure => simp [intOf]; omega
          · have hri : r = i := by omega
            subst hri
            have hPl : P < sumL L n := by have := HP.out; omega
            go_wp2_with fail
            refine (flat_some b off n cap A L C IB JO S w3 hn1 hN hR).mono ?_
            rintro e wF ⟨rfl, hbF, hown⟩
            have hall := allC_of hown rfl
            have hlF := (hown.lt _ rfl).2
            clear hown
            obtain ⟨F, hF⟩ : ∃ F, F = flatL S L n := ⟨_, rfl⟩
            have hFl : F.length = sumL L n := by rw [hF, length_flatL]
            rw [← hF] at hall
            have HF : Hid (F = flatL S L n) := hF
            clear hF
            obtain ⟨N, hNe⟩ : ∃ N, N = sumL L n := ⟨_, rfl⟩
            have HNS : Hid (sumL L n ≤ 65536) := hN
            rw [← hNe] at hN hFl hPl ⊢
            have HNF : Hid (F.length = N) := hFl
            clear hFl hNe hpl hN16
            obtain ⟨i9, hi9, hz0, hz1, hz2⟩ := info_parts Try.info9'
            go_wp2_with (at_make; refine wpList_make_own _ rfl _ _ 27 rfl wF.heap.size 9 i9 (.string ByteArray.empty) 1 Try.underlying27 hi9 hz0 hz1 _ _ _ N rfl rfl rfl (by rw [hz2]; omega) (by unfold maxLen; omega) (Nat.le_refl _) ?_)
            intro w4 hown4 hgrow4
            have hb4 : Below wF.heap.size wF w4 := (Below.refl _ _).grown hgrow4 (Nat.le_refl _) (fun k e => by cases e)
            clear hgrow4
            go_wp2
            go_loopw [10, 11] (fun tw tk wr => ∃ (k c : Nat), k ≤ N ∧ c ≤ k ∧ tk = .int .i64 (k : Int) ∧ tw = .slice (some ⟨wF.heap.size, 0, none⟩) c N ∧ Below wF.heap.size wF wr ∧ wr.ownsRow wF.heap.size 9 1 (.slice (some ⟨wF.heap.size, 0, none⟩) c N) c ((wl F P k).map Value.string)) (fun _ tk _ => N - (intOf tk).toNat)
            case atStart => exact ⟨0, 0, by omega, by omega, rfl, rfl, hb4, by rw [wl_zero]; exact hown4⟩
            case round =>
              clear hown4 hb4
              obtain ⟨k, c, hk, hck, rfl, rfl, hbr, hown⟩ := hrel
              by_cases hlt2 : k < N
              · obtain ⟨X, hX⟩ : ∃ X, F[k]? = some X := ⟨_, List.getElem?_eq_getElem (by rw [HNF.out]; exact hlt2)⟩
                have hca := (hall.below hlF hbr) k X hX
                have hki : (k : Int) < (N : Int) := by omega
                by_cases hkp : k = P
                · have hne : ((k : Int) != (P : Int)) = false := by simp; omega
                  have R : Hid (wl F P (k + 1) = wl F P k) := show wl F P (k + 1) = wl F P k by rw [hkp]; exact wl_skip F P (by rw [HNF.out]; exact hPl)
                  clear hkp hX hca hR hall
                  go_wp2
                  go_roundw
                  case rel => exact ⟨k + 1, c, by omega, by omega, by go_num, rfl, hbr, by rw [R.out]; exact hown⟩
                  case measure => simp [intOf]; omega
                · have hne : ((k : Int) != (P : Int)) = true := by simp; omega
                  have R : Hid ((wl F P k).map Value.string ++ [.string X] = (wl F P (k + 1)).map Value.string) := show (wl F P k).map Value.string ++ [.string X] = (wl F P (k + 1)).map Value.string by rw [wl_keep F P k hkp X hX]; simp
                  obtain ⟨V, hV⟩ : ∃ V, V = (wl F P k).map Value.string := ⟨_, rfl⟩
                  rw [← hV] at hown R
                  clear hkp hX hR hall hV
                  go_wp2_with (at_builtin; refine wpList_append_fits _ rfl (.tmp 74) (.tmp 79) 27 rfl wF.heap.size 9 i9 1 Try.underlying27 hi9 hz1 wF.heap.size c N V rfl (hown.alloc _) ⟨_, 0, none⟩ 1 1 [.string X] rfl rfl (cell_one_new _ _ _) (by intro u hu; simp at hu; subst hu; rfl) (by omega) ?_)
                  intro w5 hown5 hgrow5
                  have hb5 : Below wF.heap.size wF w5 := (hbr.alloc hbr.size _).grown hgrow5 (by have := hbr.size; simp; omega) (fun k e => by simp at e; omega)
                  rw [R.out] at hown5
                  clear hown hgrow5 hbr R
                  go_wp2
                  go_roundw
                  case rel => exact ⟨k + 1, c + 1, by omega, by omega, by go_num, rfl, hb5, hown5⟩
                  case measure => simp [intOf]; omega
              · have hkN : k = N := by omega
                have hwant : AllC wr wF.heap.size (F.eraseIdx P) := by
                  have h1 := allC_owns hown
                  rw [hkN, ← HNF.out, wl_all] at h1
                  exact h1
                have hcN : c = (F.eraseIdx P).length := by
                  have h1 := hown.1
                  rw [hkN, ← HNF.out, wl_all, List.length_map, Nat.mul_one] at h1
                  exact h1.symm
                have hcN1 : c ≤ N := by omega
                have HC : Hid (c = (F.eraseIdx P).length) := hcN
                have hlW := (hown.lt _ rfl).2
                have hbW := hbr
                clear hown hkN hcN hall hbr
                obtain ⟨wW, hW⟩ : ∃ W, W = wr := ⟨_, rfl⟩
                subst hW
                obtain ⟨i3, hi3, hy0, hy1, hy2⟩ := info_parts Try.info3
                go_wp2_with (at_make; refine wpList_make_own _ rfl _ _ 35 rfl wW.heap.size 3 i3 (.int .i64 0) 1 Try.underlying35 hi3 hy0 hy1 _ _ _ n rfl rfl rfl (by rw [hy2]; omega) (by unfold maxLen; omega) (Nat.le_refl _) ?_)
                intro w6 hown6 hgrow6
                have hb6 : Below wW.heap.size wW w6 := (Below.refl _ _).grown hgrow6 (Nat.le_refl _) (fun k e => by cases e)
                clear hgrow6
                go_wp2
                go_loopw [12, 13] (fun tl tr wr => ∃ (q d : Nat), q ≤ n ∧ d ≤ q ∧ tr = .int .i64 (q : Int) ∧ tl = .slice (some ⟨wW.heap.size, 0, none⟩) d n ∧ Below wW.heap.size wW wr ∧ wr.ownsRow wW.heap.size 3 1 (.slice (some ⟨wW.heap.size, 0, none⟩) d n) d ((ll L r q).map intV)) (fun _ tr _ => n - (intOf tr).toNat)
                case atStart => exact ⟨0, 0, by omega, by omega, rfl, rfl, hb6, hown6⟩
                case round =>
                  clear hown6 hb6
                  obtain ⟨q, d, hq, hdq, rfl, rfl, hbr, hown⟩ := hrel
                  have hb3 : Below w3.heap.size w3 wr := hbF.trans ((hbW.mono hbF.size).trans (hbr.mono (Nat.le_trans hbF.size hbW.size)))
                  by_cases hqn : q < n
                  · have hcq := ((hR.below hb3) q hqn).1
                    have hLq := HPOS.out q hqn
                    have hLq2 := Nat.le_trans (le_sumL L hqn) HNS.out
                    have hqi : (q : Int) < (n : Int) := by omega
                    clear hb3
                    by_cases hqr : q = r
                    · have heq : ((q : Int) == (r : Int)) = true := by simp; omega
                      by_cases hL1 : L q = 1
                      · have R : Hid (ll L r (q + 1) = ll L r q) := show ll L r (q + 1) = ll L r q by simp [ll, hqr, show L r = 1 by rw [← hqr]; exact hL1]
                        have hL2 : ¬ (0 : Int) < (L q : Int) - 1 := by omega
                        clear hqr hL1 hR
                        go_wp2
                        go_roundw
                        case rel => exact ⟨q + 1, d, by omega, by omega, by go_num, rfl, hbr, by rw [R.out]; exact hown⟩
                        case measure => simp [intOf]; omega
                      · have hlq : (L q : Int) - 1 = ((L q - 1 : Nat) : Int) := by omega
                        have hL2 : (0 : Int) < ((L q - 1 : Nat) : Int) := by omega
                        obtain ⟨V, hV⟩ : ∃ V, V = (ll L r q).map intV := ⟨_, rfl⟩
                        have R : Hid (V ++ [.int .i64 ((L q - 1 : Nat) : Int)] = (ll L r (q + 1)).map intV) := show V ++ [.int .i64 ((L q - 1 : Nat) : Int)] = (ll L r (q + 1)).map intV by rw [hV, ll, if_pos hqr, if_neg hL1]; simp [intV]
                        rw [← hV] at hown
                        clear hV hR hqr hL1
                        go_wp2_with (at_builtin; refine wpList_append_fits _ rfl (.tmp 102) (.tmp 104) 35 rfl wW.heap.size 3 i3 1 Try.underlying35 hi3 hy1 wW.heap.size d n V rfl (hown.alloc _) ⟨_, 0, none⟩ 1 1 [.int .i64 ((L q - 1 : Nat) : Int)] rfl rfl (cell_one_new _ _ _) (by intro u hu; simp at hu; subst hu; rfl) (by omega) ?_)
                        intro w7 hown7 hgrow7
                        have hb7 : Below wW.heap.size wW w7 := (hbr.alloc hbr.size _).grown hgrow7 (by have := hbr.size; simp; omega) (fun k e => by simp at e; omega)
                        rw [R.out] at hown7
                        clear hown hgrow7 hbr R hcq
                        go_wp2
                        go_roundw
                        case rel => exact ⟨q + 1, d + 1, by omega, by omega, by go_num, rfl, hb7, hown7⟩
                        case measure => simp [intOf]; omega
                    · have heq : ((q : Int) == (r : Int)) = false := by simp; omega
                      have hL2 : (0 : Int) < (L q : Int) := by omega
                      obtain ⟨V, hV⟩ : ∃ V, V = (ll L r q).map intV := ⟨_, rfl⟩
                      have R : Hid (V ++ [.int .i64 (L q : Int)] = (ll L r (q + 1)).map intV) := show V ++ [.int .i64 (L q : Int)] = (ll L r (q + 1)).map intV by rw [hV, ll, if_neg hqr]; simp [intV]
                      rw [← hV] at hown
                      clear hV hR hqr
                      go_wp2_with (at_builtin; refine wpList_append_fits _ rfl (.tmp 102) (.tmp 104) 35 rfl wW.heap.size 3 i3 1 Try.underlying35 hi3 hy1 wW.heap.size d n V rfl (hown.alloc _) ⟨_, 0, none⟩ 1 1 [.int .i64 (L q : Int)] rfl rfl (cell_one_new _ _ _) (by intro u hu; simp at hu; subst hu; rfl) (by omega) ?_)
                      intro w7 hown7 hgrow7
                      have hb7 : Below wW.heap.size wW w7 := (hbr.alloc hbr.size _).grown hgrow7 (by have := hbr.size; simp; omega) (fun k e => by simp at e; omega)
                      rw [R.out] at hown7
                      clear hown hgrow7 hbr R hcq
                      go_wp2
                      go_roundw
                      case rel => exact ⟨q + 1, d + 1, by omega, by omega, by go_num, rfl, hb7, hown7⟩
                      case measure => simp [intOf]; omega
                  · have hqn' : q = n := by omega
                    have hlens : LenC wr wW.heap.size (ll L r n) := by
                      have h1 := lenC_owns hown
                      rw [hqn'] at h1
                      exact h1
                    have hdl : d = (ll L r n).length := by
                      have h1 := hown.1
                      rw [hqn', List.length_map, Nat.mul_one] at h1
                      exact h1.symm
                    have HD : Hid (d = (ll L r n).length) := hdl
                    have hlL := (hown.lt _ rfl).2
                    have hbL := hbr
                    have hRL := hR.below hb3
                    clear hown hqn' hdl hbr hR
                    obtain ⟨wL, hWL⟩ : ∃ W, W = wr := ⟨_, rfl⟩
                    subst hWL
                    go_wp2_with fail
                    refine (copyRuns_some b off n cap A L C IB JO S wL hn1 (fun r hr => ⟨HPOS.out r hr, Nat.le_trans (le_sumL L hr) HNS.out⟩) hRL).mono ?_
                    rintro e wB ⟨rfl, hbB, G, hrs⟩
                    go_wp2_with fail
                    refine (zzNew_any _ _ _ wB).mono ?_
                    rintro e wC ⟨rfl, hwC⟩
                    have hst : St wC wL.heap.size wB.heap.size wL.heap.size n n G L L S := by rw [hwC]; exact st_new hrs hbB hn1 (fun r hr => Nat.le_trans (le_sumL L hr) HNS.out)
                    have hbC : Below wL.heap.size wL wC := by rw [hwC]; exact hbB.alloc hbB.size _
                    clear hwC hrs hRL hbB
                    generalize hp : wB.heap.size = p at hst ⊢
                    clear hp
                    go_wp2_with fail
                    refine (zzTakeOut_any wL.heap.size p wL.heap.size n n r at' G L L S wC hi hat hst hbC.size).mono ?_
                    rintro e wT ⟨rfl, m', G', K', ln', T', hst', hbT, htp⟩
                    have hpos' := htp.pos hi HPOS.out
                    have hfl := htp.flat hi hat
                    have hll := htp.lens hi
                    have hbLT : Below wL.heap.size wL wT := hbC.trans hbT
                    rw [← HF.out, show sumL L r + at' = P by have := HP.out; omega] at hfl
                    have hdm : d = m' := by
                      have := HD.out
                      rw [hll] at this
                      simpa using this
                    subst hdm
                    have hlensT : LenC wT wW.heap.size (ll L r n) := hlens.below hlL hbLT
                    have hwantT : AllC wT wF.heap.size (F.eraseIdx P) := (hwant.below hlW hbL).below (Nat.lt_of_lt_of_le hlW hbL.size) hbLT
                    have hcp := hst'.ptr.cell (j := 0) (by omega)
                    have hmc := hst'.rs.outer.fits
                    have hcl : c = sumL ln' d := by rw [HC.out, ← hfl, length_flatL]
                    have HCL : Hid (c = sumL ln' d) := hcl
                    have HFL : Hid (flatL T' ln' d = F.eraseIdx P) := hfl
                    have HLL : Hid (ll L r n = (List.range d).map ln') := hll
                    have HPOS' : Hid (∀ q, q < d → 0 < ln' q) := hpos'
                    have hbase := hbLT.size
                    have hb3T : Below w3.heap.size w3 wT := hb3.trans (hbLT.mono (Nat.le_trans hbF.size (Nat.le_trans hbW.size hbL.size)))
                    clear hcl hfl hll hpos' htp hst hbC hbT hwant hlens
                    go_wp2_with (go_at_call 11; refine (zzRuns_same _ _ _ hcp).mono ?_; rintro e w' ⟨rfl, rfl⟩)
                    go_loopw [17] (fun tr wr => ∃ q : Nat, q ≤ d ∧ tr = .int .i64 (q : Int) ∧ Below wT.heap.size wT wr) (fun tr _ => d - (intOf tr).toNat)
                    case atStart => exact ⟨0, by omega, rfl, Below.refl _ _⟩
                    case round =>
                      obtain ⟨k2, hk2, rfl, hbr⟩ := hrel
                      have hrsr := hst'.rs.below hbr
                      by_cases hk3 : k2 < d
                      · have hcg : wr.cell? ⟨wL.heap.size, k2, none⟩ = some (.slice (some ⟨G' k2, 0, none⟩) (ln' k2) (K' k2)) := hrsr.outer.cell hk3
                        have hcl : wr.cell? ⟨wW.heap.size, k2, none⟩ = some (.int .i64 ((ln' k2 : Nat) : Int)) := by
                          have h1 := hlensT k2 (ln' k2) (by rw [HLL.out]; simp [hk3])
                          rw [hbr.cell (World.block_lt_of_cell? _ _ h1)]; exact h1
                        have hki2 : (k2 : Int) < (d : Int) := by omega
                        have hlkk := (hrsr.inner k2 hk3).2.fits
                        have hkkb := hst'.caps k2 hk3
                        clear hrsr hlensT hwantT hst' hcp
                        go_wp2
                        go_quiet (fail)
                        go_wp2
                        go_roundw
                        case rel => exact ⟨k2 + 1, by omega, by go_num, below_drewN hbr _⟩
                        case measure => simp [intOf]; omega
                      · have hbw3 : Below w3.heap.size w3 wr := hb3T.trans (hbr.mono hb3T.size)
                        by_cases hd0 : d = 0
                        · have hc0 : c = 0 := by rw [HCL.out, hd0]; rfl
                          subst hd0
                          subst hc0
                          clear hrsr hlensT hwantT hst' hcp
                          go_wp2
                          go_ret
                          exact ⟨ret_bool (by first | (simp; done) | (simp; omega)), hbw3⟩
                        · have hd1 : ((d : Int) == 0) = false := by simp; omega
                          have hd2 : (0 : Int) < (d : Int) := by omega
                          have hd3 : (1 : Int) ≤ (d : Int) := by omega
                          have hd4 : 1 ≤ d := by omega
                          have hc0 : wr.cell? ⟨wL.heap.size, 0, none⟩ = some (.slice (some ⟨G' 0, 0, none⟩) (ln' 0) (K' 0)) := hrsr.outer.cell (by omega)
                          have hallr : AllC wr wF.heap.size (flatL T' ln' d) := by
                            rw [HFL.out]
                            exact hwantT.below (Nat.lt_of_lt_of_le hlW (Nat.le_trans hbL.size hbase)) hbr
                          obtain ⟨RA, hRA⟩ : ∃ RA : Option Addr, (if n = 1 then some (⟨wL.heap.size, 0, none⟩ : Addr) else some ⟨wL.heap.size, 1, none⟩) = RA := ⟨_, rfl⟩
                          have HRA : Hid (1 < d → RA = some ⟨wL.heap.size, 1, none⟩) := show 1 < d → RA = some ⟨wL.heap.size, 1, none⟩ from fun h1 => by rw [← hRA, if_neg (by omega)]
                          have HRS : Hid (Rs wr.drew wL.heap.size wL.heap.size n d G' K' ln' T') := hrsr.below ((Below.refl _ _).drew)
                          have HALL : Hid (AllC wr.drew wF.heap.size (flatL T' ln' d)) := fun k X hk => hallr k X hk
                          have hdpos : 0 < d := by omega
                          have hN100 : N ≤ 100000 := by omega
                          clear hlensT hwantT hst' hcp hd0 hallr hrsr
                          go_wp2_with fail
                          go_region_with (go_at_call 14; refine (reads_k wL.heap.size wL.heap.size n d G' K' ln' T' RA wF.heap.size N c _ hdpos HPOS'.out HRS.out HRA.out hN100 hcN1 HCL.out HALL.out).mono ?_; rintro e w9 ⟨rfl, hb9⟩)
                          all_goals
                            go_wp2
                            go_ret
                            exact ⟨rfl, hbw3.drew.trans (hb9.mono hbw3.size)⟩
end Go.Proofs.Qxb6617287a
