import Derived.Test.Qxb6617316aAgent
namespace Go.Proofs.Qxb6617316a
open Go.RowKit

theorem Try.info5 : (Try.prog.info? 5).map (fun i => (i.zero, i.size, i.bytes)) = some (some (.int .u8 0), 1, 1) := by kernel_rfl

/-- The one-byte string. -/
def oneB (c : Nat) : ByteArray := ⟨#[UInt8.ofNat c]⟩
theorem aw_oneB (c : Nat) (h : c < 256) : aw (oneB c).data.toList = agc c := by
  show aw [UInt8.ofNat c] = agc c
  rw [aw_one]
  congr 1
  simp [UInt8.toNat_ofNat']
  omega

theorem conv_back (w : World) (B c : Nat) (hc : c < 256) (h : w.cell? ⟨B, 0, none⟩ = some (.int .u8 (c : Int))) :
    (convert 25 9 (.slice (some ⟨B, 0, none⟩) 1 1)).run Try.prog w = .ok (.string (oneB c)) w :=
  run_convert_bytes_back (P := Try.prog) w 25 9 5 ⟨B, 0, none⟩ 1 [UInt8.ofNat c] Try.underlying25 Try.underlying5 Try.underlying9 (fun j hj => by
    have : j = 0 := by simpa using hj
    subst this
    have e : ((UInt8.ofNat c).toNat : Int) = (c : Int) := by
      have : (UInt8.ofNat c).toNat = c := by simp [UInt8.toNat_ofNat']; omega
      omega
    rw [Addr.add_lit]
    simp only [List.getElem_cons_zero]
    rw [e]
    exact h)

set_option maxHeartbeats 1000000 in
theorem accept_any (w : World) :
    Calls Try.prog 6 #[] w fun e w' => e = .returned (.int .i64 37) ∧ Below w.heap.size w w' := by
  obtain ⟨i5, hi5, hz0, hz1, hz2⟩ := info_parts Try.info5
  go_enter Try.func6, Try.ntmps6
  go_wp2_with (at_make; refine wpList_make_full _ rfl _ _ 25 rfl w.heap.size 5 i5 (.int .u8 0) 1 Try.underlying25 hi5 hz0 hz1 _ _ _ _ 1 rfl rfl rfl rfl (by rw [hz2]; omega) (by unfold maxLen; omega) (Nat.le_refl _) ?_)
  intro w1 hown hgrow
  have hb1 : Below w.heap.size w w1 := (Below.refl _ _).grown hgrow (Nat.le_refl _) (fun k e => by cases e)
  have hs1 : w.heap.size < w1.heap.size := (hown.lt _ rfl).2
  have hc1 : ∃ v, w1.cell? ⟨w.heap.size, 0, none⟩ = some v := by
    have := hown.cellAt 0 (by omega)
    exact ⟨_, this.trans (List.getElem?_eq_getElem (by rw [hown.1]; omega))⟩
  have hf1 := hown.frozenAt 0
  clear hown hgrow
  go_wp2
  go_loopw [1, 3] (fun tn tc wr => ∃ (k d : Nat), k ≤ 256 ∧ d ≤ k ∧ tc = .int .i64 (k : Int) ∧ tn = .int .i64 (d : Int) ∧ Hid (d = cnt k) ∧ Below w.heap.size w wr ∧ w.heap.size < wr.heap.size ∧ (∃ v, wr.cell? ⟨w.heap.size, 0, none⟩ = some v) ∧ wr.frozen? ⟨w.heap.size, 0, none⟩ = false) (fun _ tc _ => 256 - (intOf tc).toNat)
  case atStart => exact ⟨0, 0, by omega, by omega, rfl, rfl, rfl, hb1, hs1, hc1, hf1⟩
  case round =>
    clear hb1 hs1 hc1 hf1
    obtain ⟨k, d, hk, hdk, rfl, rfl, HD, hbr, hsr, ⟨v, hv⟩, hf⟩ := hrel
    by_cases hlt : k < 256
    · have hki : (k : Int) < 256 := by omega
      have hset : (wr.setCell ⟨w.heap.size, 0, none⟩ (.int .u8 (k : Int))).cell? ⟨w.heap.size, 0, none⟩ = some (.int .u8 (k : Int)) := World.cell?_setCell_same' _ _ _ (by rw [hv]; rfl)
      have hback := conv_back _ w.heap.size k hlt hset
      have hbs : Below w.heap.size w (wr.setCell ⟨w.heap.size, 0, none⟩ (.int .u8 (k : Int))) := hbr.setCell (p := ⟨w.heap.size, 0, none⟩) (Nat.le_refl _) _
      have hss : w.heap.size < (wr.setCell ⟨w.heap.size, 0, none⟩ (.int .u8 (k : Int))).heap.size := by simpa [World.setCell] using hsr
      have hfs : (wr.setCell ⟨w.heap.size, 0, none⟩ (.int .u8 (k : Int))).frozen? ⟨w.heap.size, 0, none⟩ = false := (World.frozen?_setCell _ _ _ _).trans hf
      go_wp2_with fail
      refine (zzAgent_any (oneB k) _ (by unfold maxLen; simp [oneB, ByteArray.size])).mono ?_
      rintro e w5 ⟨rfl, hb5⟩
      rw [aw_oneB k hlt]
      have hb5' := hbs.trans (hb5.mono hbs.size)
      have hv5 := (hb5.cell (p := ⟨w.heap.size, 0, none⟩) hss).trans hset
      have hf5 := (hb5.frozen (p := ⟨w.heap.size, 0, none⟩) hss).trans hfs
      have hs5 := Nat.lt_of_lt_of_le hss hb5.size
      clear hset hback hbs hss hfs hb5 hbr hsr hv hf
      cases hag : agc k with
      | true =>
        have R : Hid (d + 1 = cnt (k + 1)) := show d + 1 = cnt (k + 1) by simp [cnt, hag, HD.out]
        clear hag
        go_wp2
        go_roundw
        case rel => exact ⟨k + 1, d + 1, by omega, by omega, by go_num, by go_num, R, hb5', hs5, ⟨_, hv5⟩, hf5⟩
        case measure => simp [intOf]; omega
      | false =>
        have R : Hid (d = cnt (k + 1)) := show d = cnt (k + 1) by simp [cnt, hag, HD.out]
        clear hag
        go_wp2
        go_roundw
        case rel => exact ⟨k + 1, d, by omega, by omega, by go_num, rfl, R, hb5', hs5, ⟨_, hv5⟩, hf5⟩
        case measure => simp [intOf]; omega
    · have hk2 : k = 256 := by omega
      have hd : d = 37 := by have := HD.out; rw [hk2, cnt_256] at this; exact this
      subst hk2 hd
      go_wp2
      go_ret
      exact ⟨rfl, hbr⟩
end Go.Proofs.Qxb6617316a
