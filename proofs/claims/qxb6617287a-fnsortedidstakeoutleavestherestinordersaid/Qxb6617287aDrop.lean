import Derived.Test.Qxb6617287aOwn
import Derived.Test.Qxb6617287aErase
namespace Go.Proofs.Qxb6617287a
open Go.RowKit

/-- copy within a row that is known whole, as one step of a region that draws; THE WORLD BEHIND IT EXACT. -/
theorem step_copy_exact {P : Program} {ops : Array Oper} {o : Oper} {a : Act} {w : World} {K : Act → World → Prop} {Q : Exit → Act → World → Prop} {E : Prop} (hgd : o.guard = none) (d s : Operand) (dT sT : TypeId)
    (ho : o.op = .call { callee := .builtin .copy, args := #[d, s], argTypes := #[dT, sT] }) (elem : TypeId) (hu : P.underlying dT = some (.slice elem)) (hsz : (P.info? elem).map (·.size) = some 1)
    (dp sp : Option Addr) (dLen dCap sLen sCap : Nat) (hd : a.eval d = .slice dp dLen dCap) (hs : a.eval s = .slice sp sLen sCap)
    (g off n : Nat) (cur : List Value) (t : TypeId) (hg : w.heap[g]? = some (.cells cur.toArray t (0, 0))) (cs : List Value) (hcs : cs.length = n) (hn : n = Nat.min sLen dLen)
    (hpos : 0 < n → dp = some ⟨g, off, none⟩ ∧ ∃ ad, sp = some ad ∧ ∀ j v, cs[j]? = some v → w.cell? (ad.add j) = some v)
    (hfit : off + n ≤ cur.length) (h1 : ∀ v ∈ cs, v.oneCell' = true)
    (h : ∀ w', Hid (w' = w.setRow g (cur.take off ++ (cs ++ cur.drop (off + n))).toArray) → K (a.put o.dst (goInt n)) w') :
    if Region.wanted o (yielded ops a.tmps) = true then Oper.wp P o a w K Q else E := by
  have hw : Region.wanted o (yielded ops a.tmps) = true := by simp [Region.wanted, hgd]
  rw [if_pos hw]
  subst hcs
  by_cases h0 : cs.length = 0
  · obtain rfl : cs = [] := List.eq_nil_of_length_eq_zero h0
    have hrun := run_copy_none (P := P) w dT sT o.type elem dp sp dLen dCap sLen sCap hu hsz (by simpa using hn.symm)
    unfold Oper.wp
    simp [execOp, ho, resolve, invoke, builtin, hd, hs, hrun, Result.andThen]
    exact h w (show _ = _ by simpa using (setRow_self w g cur.toArray t (0, 0) hg).symm)
  · obtain ⟨rfl, ad, rfl, hsrc⟩ := hpos (by omega)
    have hrun := run_copy_row (P := P) w dT sT o.type elem g off dLen dCap ad sLen sCap cur.toArray t cs hu hsz hg hn hsrc (by simpa using hfit) h1
    unfold Oper.wp
    simp [execOp, ho, resolve, invoke, builtin, hd, hs, hrun, Result.andThen]
    exact h _ (show _ = _ by simp)

structure St (w : World) (base p bo mcap m : Nat) (G K ln : Nat → Nat) (T : Nat → Nat → ByteArray) : Prop where
  ptr : Row w 38 p 1 1 (fun _ => .slice (some ⟨bo, 0, none⟩) m mcap)
  lowp : base ≤ p
  rs : Rs w base bo mcap m G K ln T
  capm : mcap ≤ 65536
  caps : ∀ r, r < m → K r ≤ 100000

theorem St.below {w w' : World} {base p bo mcap m : Nat} {G K ln : Nat → Nat} {T : Nat → Nat → ByteArray} (h : St w base p bo mcap m G K ln T) (hb : Below w.heap.size w w') : St w' base p bo mcap m G K ln T :=
  ⟨h.ptr.below hb, h.lowp, h.rs.below hb, h.capm, h.caps⟩

theorem Try.size27 : (Try.prog.info? 27).map (·.size) = some 1 := by kernel_rfl
theorem Try.size9 : (Try.prog.info? 9).map (·.size) = some 1 := by kernel_rfl

/-- The cells that a copy x[i:] from x[i+1:] moves. -/
def movedV (V : Nat → Value) (i len : Nat) : List Value := (List.range (len - 1 - i)).map fun q => V (i + 1 + q)
theorem movedV_length (V : Nat → Value) (i len : Nat) : (movedV V i len).length = len - 1 - i := by simp [movedV]
theorem movedV_src {w : World} {t g len cap : Nat} {V : Nat → Value} (h : Row w t g len cap V) (i : Nat) : ∀ j v, (movedV V i len)[j]? = some v → w.cell? ((⟨g, i + 1, none⟩ : Addr).add j) = some v := by
  intro j v hv
  have hj : j < len - 1 - i := by
    have := (List.getElem?_eq_some_iff.1 hv).1
    rwa [movedV_length] at this
  rw [Addr.add_lit, h.cell (by omega)]
  simp [movedV, hj] at hv
  rw [hv]
theorem movedV_one {V : Nat → Value} {i len : Nat} (hV : ∀ j, j < len → (V j).oneCell' = true) : ∀ v ∈ movedV V i len, v.oneCell' = true := by
  intro v hv
  obtain ⟨q, hq, rfl⟩ := List.mem_map.1 hv
  exact hV _ (by have := List.mem_range.1 hq; omega)

theorem copy_pos {w : World} {g i len cap : Nat} {V : Nat → Value} {dp sp : Option Addr} (hsrc : ∀ j v, (movedV V i len)[j]? = some v → w.cell? ((⟨g, i + 1, none⟩ : Addr).add j) = some v) (hmc : len ≤ cap)
    (hdp : dp = some ⟨g, i, none⟩) (hsp : sp = if cap = i + 1 then some (⟨g, 0, none⟩ : Addr) else some ⟨g, i + 1, none⟩) :
    0 < len - 1 - i → dp = some ⟨g, i, none⟩ ∧ ∃ ad, sp = some ad ∧ ∀ j v, (movedV V i len)[j]? = some v → w.drew.cell? (ad.add j) = some v :=
  fun h => ⟨hdp, ⟨g, i + 1, none⟩, by rw [hsp, if_neg (by omega)], hsrc⟩

/-- What dropRun leaves. -/
def DropW (w : World) (base p bo mcap m i : Nat) (G K ln : Nat → Nat) (T : Nat → Nat → ByteArray) (w' : World) : Prop :=
  Below base w w' ∧ w'.heap.size = w.heap.size ∧ St w' base p bo mcap (m - 1) (sh i G) (sh i K) (sh i ln) (sh i T)

theorem drop_mid {w w4 : World} {base p bo mcap m i : Nat} {G K ln : Nat → Nat} {T : Nat → Nat → ByteArray} (h : St w base p bo mcap m G K ln T) (hi : i < m) {cur : List Value} (hcur : w.heap[bo]? = some (.cells cur.toArray 27 (0, 0)))
    (hw : w4 = w.drew.setRow bo (cur.take i ++ (movedV (runV G ln K) i m ++ cur.drop (i + (m - 1 - i)))).toArray) :
    Below base w w4 ∧ w4.heap.size = w.heap.size ∧ Row w4 38 p 1 1 (fun _ => .slice (some ⟨bo, 0, none⟩) m mcap) ∧ Row w4 27 bo m mcap (shiftV (runV G ln K) i m) ∧ ∀ r, r < m → Row w4 9 (G r) (ln r) (K r) (fun j => .string (T r j)) := by
  subst hw
  refine ⟨below_setRow ((Below.refl _ _).drew) h.rs.low _, by rw [setRow_size]; rfl, ?_, ?_, fun r hr => ?_⟩
  · exact Row.setRow_other (w := w.drew) h.ptr (h.ptr.ne h.rs.outer (by decide)) _
  · exact Row.shifted (w := w.drew) h.rs.outer hi cur hcur
  · exact Row.setRow_other (w := w.drew) (h.rs.inner r hr).2 ((h.rs.inner r hr).2.ne h.rs.outer (by decide)) _

theorem size_setCell (w : World) (a : Addr) (v : Value) : (w.setCell a v).heap.size = w.heap.size := by simp [World.setCell]

theorem drop_end {w w4 : World} {base p bo mcap m i : Nat} {G K ln : Nat → Nat} {T : Nat → Nat → ByteArray} (h : St w base p bo mcap m G K ln T) (hi : i < m) (hb4 : Below base w w4) (hs4 : w4.heap.size = w.heap.size)
    (hptr4 : Row w4 38 p 1 1 (fun _ => .slice (some ⟨bo, 0, none⟩) m mcap)) (hrow4 : Row w4 27 bo m mcap (shiftV (runV G ln K) i m)) (hin4 : ∀ r, r < m → Row w4 9 (G r) (ln r) (K r) (fun j => .string (T r j))) :
    DropW w base p bo mcap m i G K ln T (((w4.setCell ⟨bo, m - 1, none⟩ (.slice none 0 0)).setCell ⟨p, 0, none⟩ (.slice (some ⟨bo, 0, none⟩) (m - 1) mcap)).drew.drew) := by
  have hpb : p ≠ bo := hptr4.ne hrow4 (by decide)
  have hmc := hrow4.fits
  refine ⟨((hb4.setCell h.rs.low _).setCell h.lowp _).drew.drew, ?_, ?_⟩
  · show ((w4.setCell _ _).setCell _ _).heap.size = _
    rw [size_setCell, size_setCell, hs4]
  · refine ⟨?_, h.lowp, ⟨h.rs.low, ?_, fun r hr => ?_, fun r q hr hq e => ?_⟩, h.capm, fun r hr => ?_⟩
    · exact ((hptr4.other hpb _).set (j := 0) (by omega) _).congr (fun j hj => by simp; omega)
    · refine ((((hrow4.set (j := m - 1) (by omega) (.slice none 0 0)).other (a := ⟨p, 0, none⟩) (Ne.symm hpb) (.slice (some ⟨bo, 0, none⟩) (m - 1) mcap)).shrink (Nat.sub_le m 1)).congr (fun j hj => ?_))
      rw [if_neg (by omega)]
      unfold shiftV runV
      by_cases c : j < i
      · rw [if_neg (by omega), sh_lt c, sh_lt c, sh_lt c]
      · rw [if_pos (by omega), sh_ge c, sh_ge c, sh_ge c]
    · have each : ∀ q, q < m → base ≤ G q ∧ Row ((w4.setCell ⟨bo, m - 1, none⟩ (.slice none 0 0)).setCell ⟨p, 0, none⟩ (.slice (some ⟨bo, 0, none⟩) (m - 1) mcap)) 9 (G q) (ln q) (K q) (fun j => .string (T q j)) := fun q hq =>
        ⟨(h.rs.inner q hq).1, ((hin4 q hq).other (a := ⟨bo, m - 1, none⟩) ((hin4 q hq).ne hrow4 (by decide)) _).other (a := ⟨p, 0, none⟩) ((hin4 q hq).ne hptr4 (by decide)) _⟩
      by_cases c : r < i
      · rw [sh_lt c, sh_lt c, sh_lt c, sh_lt c]; exact each r (by omega)
      · rw [sh_ge c, sh_ge c, sh_ge c, sh_ge c]; exact each (r + 1) (by omega)
    · by_cases c1 : r < i
      · by_cases c2 : q < i
        · rw [sh_lt c1, sh_lt c2] at e; exact h.rs.apart r q (by omega) (by omega) e
        · rw [sh_lt c1, sh_ge c2] at e
          have := h.rs.apart r (q + 1) (by omega) (by omega) e
          omega
      · by_cases c2 : q < i
        · rw [sh_ge c1, sh_lt c2] at e
          have := h.rs.apart (r + 1) q (by omega) (by omega) e
          omega
        · rw [sh_ge c1, sh_ge c2] at e
          have := h.rs.apart (r + 1) (q + 1) (by omega) (by omega) e
          omega
    · by_cases c : r < i
      · rw [sh_lt c]; exact h.caps r (by omega)
      · rw [sh_ge c]; exact h.caps (r + 1) (by omega)

set_option maxHeartbeats 4000000 in
theorem dropRun_any (base p bo mcap m i : Nat) (G K ln : Nat → Nat) (T : Nat → Nat → ByteArray) (w : World) (hi : i < m) (h : St w base p bo mcap m G K ln T) :
    Calls Try.prog 19 #[.pointer (some ⟨p, 0, none⟩), .int .i64 (i : Int)] w fun e w' => e = .returned (.tuple #[]) ∧ DropW w base p bo mcap m i G K ln T w' := by
  have hcp := h.ptr.cell (j := 0) (by omega)
  have hfp := h.ptr.free 0
  have hmc := h.rs.outer.fits
  have hcm := h.capm
  obtain ⟨cur, hcur, hcl, _, _⟩ := h.rs.outer
  have hrow := h.rs.outer
  have hsrc := movedV_src hrow i
  have hone := movedV_one (V := runV G ln K) (i := i) (len := m) (fun _ _ => rfl)
  have hlen := movedV_length (runV G ln K) i m
  have him : i ≤ m := by omega
  have hic : ¬ mcap = i := by omega
  have hwr : IntKind.i64.wrap ((i : Int) + 1) = (i : Int) + 1 := by rw [IntKind.wrap_i64]; omega
  have hp0 : (0 : Int) ≤ (i : Int) + 1 := by omega
  have hp1 : (i : Int) + 1 ≤ (m : Int) := by omega
  have hp2 : ((i : Int) + 1).toNat = i + 1 := by omega
  have hmw : IntKind.i64.wrap ((m : Int) - 1) = (m : Int) - 1 := by rw [IntKind.wrap_i64]; omega
  have hm0 : (0 : Int) ≤ (m : Int) - 1 := by omega
  have hm1 : (m : Int) - 1 < (m : Int) := by omega
  have hm2 : ((m : Int) - 1).toNat = m - 1 := by omega
  have hm3 : (m : Int) - 1 ≤ (mcap : Int) := by omega
  have hmin : m - 1 - i = Nat.min (m - (i + 1)) (m - i) := by show _ = min _ _; omega
  have hfit : i + (m - 1 - i) ≤ cur.length := by omega
  obtain ⟨A, hA⟩ : ∃ A : Option Addr, (if mcap = i + 1 then some (⟨bo, 0, none⟩ : Addr) else some ⟨bo, i + 1, none⟩) = A := ⟨_, rfl⟩
  go_enter Try.func19, Try.ntmps19
  go_wp2_with fail
  go_region_law (refine step_copy_exact rfl (.tmp 9) (.tmp 16) 22 22 rfl 27 Try.underlying22 Try.size27 (some ⟨bo, i, none⟩) A (m - i) (mcap - i) (m - (i + 1)) (mcap - (i + 1)) (by simp [Act.eval, Act.put]) (by simp [Act.eval, Act.put]) bo i (m - 1 - i) cur 27 hcur (movedV (runV G ln K) i m) hlen hmin (copy_pos hsrc hmc rfl hA.symm) hfit hone ?_; intro w4 hw4)
  · obtain ⟨hb4, hs4, hptr4, hrow4, hin4⟩ := drop_mid h hi hcur hw4.out
    have hcp4 := hptr4.cell (j := 0) (by omega)
    have hfp4 := hptr4.free 0
    obtain ⟨v0, hv0⟩ := hrow4.ex (j := m - 1) (by omega)
    have hf0 := hrow4.free (m - 1)
    have hpb := hptr4.ne hrow4 (by decide)
    have hcp5 : (w4.setCell ⟨bo, m - 1, none⟩ (.slice none 0 0)).cell? ⟨p, 0, none⟩ = some (.slice (some ⟨bo, 0, none⟩) m mcap) := (hptr4.other hpb _).cell (j := 0) (by omega)
    have hfp5 : (w4.setCell ⟨bo, m - 1, none⟩ (.slice none 0 0)).frozen? ⟨p, 0, none⟩ = false := (hptr4.other hpb _).free 0
    clear hcp hfp hcur hrow hsrc hone hlen hw4 hcl
    go_wp2_with fail
    go_region
    go_wp2_with fail
    go_region
    go_end0
    exact ⟨rfl, drop_end h hi hb4 hs4 hptr4 hrow4 hin4⟩
  · obtain ⟨hb4, hs4, hptr4, hrow4, hin4⟩ := drop_mid h hi hcur hw4.out
    have hcp4 := hptr4.cell (j := 0) (by omega)
    have hfp4 := hptr4.free 0
    obtain ⟨v0, hv0⟩ := hrow4.ex (j := m - 1) (by omega)
    have hf0 := hrow4.free (m - 1)
    have hpb := hptr4.ne hrow4 (by decide)
    have hcp5 : (w4.setCell ⟨bo, m - 1, none⟩ (.slice none 0 0)).cell? ⟨p, 0, none⟩ = some (.slice (some ⟨bo, 0, none⟩) m mcap) := (hptr4.other hpb _).cell (j := 0) (by omega)
    have hfp5 : (w4.setCell ⟨bo, m - 1, none⟩ (.slice none 0 0)).frozen? ⟨p, 0, none⟩ = false := (hptr4.other hpb _).free 0
    clear hcp hfp hcur hrow hsrc hone hlen hw4 hcl
    go_wp2_with fail
    go_region
    go_wp2_with fail
    go_region
    go_end0
    exact ⟨rfl, drop_end h hi hb4 hs4 hptr4 hrow4 hin4⟩
end Go.Proofs.Qxb6617287a
