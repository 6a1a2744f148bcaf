import Derived.Test.Qxb6617316aAccept
namespace Go.Proofs.Qxb6617316a
open Go.RowKit

theorem data_join (a b : ByteArray) : (a ++ b).data.toList = a.data.toList ++ b.data.toList := by simp [ByteArray.data_append]

theorem zzb4_any (a b : ByteArray) (w : World) (ha : a.size ≤ 65536) (hb : b.size ≤ 65536) :
    Calls Try.prog 4 #[.string a, .string b] w fun e w' => e = .returned (.bool true) ∧ w = w' := by
  go_enter Try.func4, Try.ntmps4
  go_wp2
  go_ret
  exact ⟨rfl, rfl⟩

theorem join_big (a b : ByteArray) (w : World) (ha : a.size ≤ maxLen) (hb : b.size ≤ maxLen) (h : 65536 < a.size ∨ (a.size ≤ 65536 ∧ 65536 < b.size)) :
    Calls Try.prog 3 #[.string a, .string b] w fun e w' => e = .returned (.bool true) ∧ Below w.heap.size w w' := by
  unfold maxLen at ha hb
  rcases h with h | ⟨h1, h⟩
  · have h' : (65536 : Int) < (a.size : Int) := by omega
    go_enter Try.func3, Try.ntmps3
    go_wp2
    all_goals
      go_ret
      exact ⟨rfl, Below.refl _ _⟩
  · have h' : (65536 : Int) < (b.size : Int) := by omega
    have h1' : decide ((65536 : Int) < (a.size : Int)) = false := by simp; omega
    go_enter Try.func3, Try.ntmps3
    go_wp2
    all_goals
      go_ret
      exact ⟨rfl, Below.refl _ _⟩

theorem empty_yes {a : ByteArray} (h : a.size = 0) : a.toList.isEmpty = true := by rw [ByteArray.toList_eq, List.isEmpty_iff]; exact List.eq_nil_of_length_eq_zero h
theorem empty_no {a : ByteArray} (h : 0 < a.size) : a.toList.isEmpty = false := by
  rw [ByteArray.toList_eq, List.isEmpty_eq_false_iff]
  intro e
  have : a.data.toList.length = a.size := rfl
  rw [e] at this
  simp at this
  omega
theorem join_aw (a b : ByteArray) (h1 : 1 ≤ a.size + b.size) (h2 : a.size + b.size ≤ 64) : aw (a ++ b).data.toList = ((a.toList.isEmpty || aw a.data.toList) && (b.toList.isEmpty || aw b.data.toList)) := by
  rw [data_join, ByteArray.toList_eq, ByteArray.toList_eq]
  exact aw_append _ _ h1 h2

set_option maxHeartbeats 2000000 in
theorem join_small (a b : ByteArray) (w : World) (ha : a.size ≤ 65536) (hb : b.size ≤ 65536) :
    Calls Try.prog 3 #[.string a, .string b] w fun e w' => e = .returned (.bool true) ∧ Below w.heap.size w w' := by
  have hda : decide ((65536 : Int) < (a.size : Int)) = false := by simp; omega
  have hab : (a ++ b).size ≤ maxLen := by unfold maxLen; rw [ByteArray.size_append]; omega
  have ham : a.size ≤ maxLen := by unfold maxLen; omega
  have hbm : b.size ≤ maxLen := by unfold maxLen; omega
  go_enter Try.func3, Try.ntmps3
  go_wp2_with fail
  refine (zzb4_any a b w ha hb).mono ?_
  rintro e w0 ⟨rfl, rfl⟩
  by_cases h1 : 1 ≤ a.size + b.size
  · by_cases h2 : a.size + b.size ≤ 64
    · have hj := join_aw a b h1 h2
      have h1i : (1 : Int) ≤ (a.size : Int) + (b.size : Int) := by omega
      have h2i : (a.size : Int) + (b.size : Int) ≤ 64 := by omega
      by_cases ea : a.size = 0
      · have hae := empty_yes ea
        have hbe := empty_no (a := b) (by omega)
        cases hvb : aw b.data.toList with
        | true =>
          have hq : aw (a ++ b).data.toList = true := by rw [hj, hae, hbe, hvb]; rfl
          clear hj
          go_wp2_with fail
          refine (zzAgent_any b w hbm).mono ?_
          rintro e w7 ⟨rfl, hb7⟩
          rw [hvb]
          clear hvb
          go_wp2_with fail
          refine (zzAgent_any (a ++ b) w7 hab).mono ?_
          rintro e w8 ⟨rfl, hb8⟩
          rw [hq]
          go_wp2_with fail
          refine (accept_any w8).mono ?_
          rintro e w9 ⟨rfl, hb9⟩
          have hbel := hb7.trans (hb8.mono hb7.size)
          have hbel2 := hbel.trans (hb9.mono hbel.size)
          clear hb8 hb9 hbel
          go_wp2
          go_ret
          exact ⟨ret_bool (by first | rfl | simp), hbel2⟩
        | false =>
          have hq : aw (a ++ b).data.toList = false := by rw [hj, hae, hbe, hvb]; rfl
          clear hj
          go_wp2_with fail
          refine (zzAgent_any b w hbm).mono ?_
          rintro e w7 ⟨rfl, hb7⟩
          rw [hvb]
          clear hvb
          go_wp2_with fail
          refine (zzAgent_any (a ++ b) w7 hab).mono ?_
          rintro e w8 ⟨rfl, hb8⟩
          rw [hq]
          go_wp2_with fail
          refine (accept_any w8).mono ?_
          rintro e w9 ⟨rfl, hb9⟩
          have hbel := hb7.trans (hb8.mono hb7.size)
          have hbel2 := hbel.trans (hb9.mono hbel.size)
          clear hb8 hb9 hbel
          go_wp2
          go_ret
          exact ⟨ret_bool (by first | rfl | simp), hbel2⟩
      · have hae := empty_no (a := a) (by omega)
        cases hva : aw a.data.toList with
        | false =>
          have hq : aw (a ++ b).data.toList = false := by rw [hj, hae, hva]; rfl
          clear hj
          go_wp2_with fail
          refine (zzAgent_any a w ham).mono ?_
          rintro e w6 ⟨rfl, hb6⟩
          rw [hva]
          clear hva
          go_wp2_with fail
          refine (zzAgent_any (a ++ b) w6 hab).mono ?_
          rintro e w8 ⟨rfl, hb8⟩
          rw [hq]
          go_wp2_with fail
          refine (accept_any w8).mono ?_
          rintro e w9 ⟨rfl, hb9⟩
          have hbel := hb6.trans (hb8.mono hb6.size)
          have hbel2 := hbel.trans (hb9.mono hbel.size)
          clear hb8 hb9 hbel
          go_wp2
          go_ret
          exact ⟨ret_bool (by first | rfl | simp), hbel2⟩
        | true =>
          by_cases eb : b.size = 0
          · have hbe := empty_yes eb
            have hq : aw (a ++ b).data.toList = true := by rw [hj, hae, hva, hbe]; rfl
            clear hj
            go_wp2_with fail
            refine (zzAgent_any a w ham).mono ?_
            rintro e w6 ⟨rfl, hb6⟩
            rw [hva]
            clear hva
            go_wp2_with fail
            refine (zzAgent_any (a ++ b) w6 hab).mono ?_
            rintro e w8 ⟨rfl, hb8⟩
            rw [hq]
            go_wp2_with fail
            refine (accept_any w8).mono ?_
            rintro e w9 ⟨rfl, hb9⟩
            have hbel := hb6.trans (hb8.mono hb6.size)
            have hbel2 := hbel.trans (hb9.mono hbel.size)
            clear hb8 hb9 hbel
            go_wp2
            go_ret
            exact ⟨ret_bool (by first | rfl | simp), hbel2⟩
          · have hbe := empty_no (a := b) (by omega)
            cases hvb : aw b.data.toList with
            | true =>
              have hq : aw (a ++ b).data.toList = true := by rw [hj, hae, hva, hbe, hvb]; rfl
              clear hj
              go_wp2_with fail
              refine (zzAgent_any a w ham).mono ?_
              rintro e w6 ⟨rfl, hb6⟩
              rw [hva]
              clear hva
              go_wp2_with fail
              refine (zzAgent_any b w6 hbm).mono ?_
              rintro e w7 ⟨rfl, hb7⟩
              rw [hvb]
              clear hvb
              have hb67 := hb6.trans (hb7.mono hb6.size)
              go_wp2_with fail
              refine (zzAgent_any (a ++ b) w7 hab).mono ?_
              rintro e w8 ⟨rfl, hb8⟩
              rw [hq]
              go_wp2_with fail
              refine (accept_any w8).mono ?_
              rintro e w9 ⟨rfl, hb9⟩
              have hbel := hb67.trans (hb8.mono hb67.size)
              have hbel2 := hbel.trans (hb9.mono hbel.size)
              clear hb8 hb9 hbel
              go_wp2
              go_ret
              exact ⟨ret_bool (by first | rfl | simp), hbel2⟩
            | false =>
              have hq : aw (a ++ b).data.toList = false := by rw [hj, hae, hva, hbe, hvb]; rfl
              clear hj
              go_wp2_with fail
              refine (zzAgent_any a w ham).mono ?_
              rintro e w6 ⟨rfl, hb6⟩
              rw [hva]
              clear hva
              go_wp2_with fail
              refine (zzAgent_any b w6 hbm).mono ?_
              rintro e w7 ⟨rfl, hb7⟩
              rw [hvb]
              clear hvb
              have hb67 := hb6.trans (hb7.mono hb6.size)
              go_wp2_with fail
              refine (zzAgent_any (a ++ b) w7 hab).mono ?_
              rintro e w8 ⟨rfl, hb8⟩
              rw [hq]
              go_wp2_with fail
              refine (accept_any w8).mono ?_
              rintro e w9 ⟨rfl, hb9⟩
              have hbel := hb67.trans (hb8.mono hb67.size)
              have hbel2 := hbel.trans (hb9.mono hbel.size)
              clear hb8 hb9 hbel
              go_wp2
              go_ret
              exact ⟨ret_bool (by first | rfl | simp), hbel2⟩
    · have hq : aw (a ++ b).data.toList = false := aw_long _ (by rw [show (a ++ b).data.toList.length = (a ++ b).size from rfl, ByteArray.size_append]; omega)
      have h1i : (1 : Int) ≤ (a.size : Int) + (b.size : Int) := by omega
      have h2i : ¬ (a.size : Int) + (b.size : Int) ≤ 64 := by omega
      go_wp2_with fail
      refine (zzAgent_any (a ++ b) w hab).mono ?_
      rintro e w8 ⟨rfl, hb8⟩
      rw [hq]
      go_wp2_with fail
      refine (accept_any w8).mono ?_
      rintro e w9 ⟨rfl, hb9⟩
      have hbel := (Below.refl w.heap.size w).trans hb8
      have hbel2 := hbel.trans (hb9.mono hbel.size)
      clear hb8 hb9 hbel
      go_wp2
      go_ret
      exact ⟨ret_bool (by first | rfl | simp), hbel2⟩
  · have hq : aw (a ++ b).data.toList = false := aw_short _ (by rw [show (a ++ b).data.toList.length = (a ++ b).size from rfl, ByteArray.size_append]; omega)
    have h1i : ¬ (1 : Int) ≤ (a.size : Int) + (b.size : Int) := by omega
    go_wp2_with fail
    refine (zzAgent_any (a ++ b) w hab).mono ?_
    rintro e w8 ⟨rfl, hb8⟩
    rw [hq]
    go_wp2_with fail
    refine (accept_any w8).mono ?_
    rintro e w9 ⟨rfl, hb9⟩
    have hbel := (Below.refl w.heap.size w).trans hb8
    have hbel2 := hbel.trans (hb9.mono hbel.size)
    clear hb8 hb9 hbel
    go_wp2
    go_ret
    exact ⟨ret_bool (by first | rfl | simp), hbel2⟩
end Go.Proofs.Qxb6617316a
