import Derived.Test.Qxb6617244aNan
import Derived.OpenShut
import Derived.Laws.CopyOwn
import Derived.WalkSpells
namespace Go.Proofs.Qxb6617244a
open Go.RowKit

theorem Try.info5 : (Try.prog.info? 5).map (fun i => (i.zero, i.size, i.bytes)) = some (some (.int .u8 0), 1, 1) := by kernel_rfl
theorem Try.size5 : (Try.prog.info? 5).map (·.size) = some 1 := by kernel_rfl

theorem row_open {w : World} {x : Addr} {zs : List Int} (hcell : ∀ i, i < zs.length → w.cell? (x.add i) = some (.int .u8 (zs.getD i 0))) (hpos : 0 < zs.length) :
    ∃ b off, x = ⟨b, off, none⟩ ∧ b < w.heap.size ∧ ∀ k, k < zs.length → w.cell? ⟨b, off + k, none⟩ = some (.int .u8 (zs.getD k 0)) := by
  obtain ⟨b, off, spot⟩ := x
  have hc := hcell 0 hpos
  have hspot : spot = none := by simpa [Addr.add] using World.cell?_spot hc
  subst hspot
  refine ⟨b, off, rfl, ?_, fun k hk => ?_⟩
  · simpa [Addr.add] using World.block_lt_of_cell? _ _ hc
  · have := hcell k hk
    rwa [Addr.add_lit] at this

theorem row_bd {zs : List Int} (hwz : ∀ n ∈ zs, (Lit.int .u8 n).wf = true) : ∀ k, 0 ≤ zs.getD k 0 ∧ zs.getD k 0 ≤ 255 := by
  intro k
  have := range_u8 hwz k
  simpa [List.getD] using this

theorem copy_made (B : Nat) (w1 : World) (xs : List Value) (x : Addr) (len cap : Nat) (g : Nat → Int)
    (hown : w1.ownsRow B 5 1 (.slice (some ⟨B, 0, none⟩) len len) len xs)
    (hc1 : ∀ k, k < len → w1.cell? (x.add k) = some (.int .u8 (g k))) :
    ∃ w2, (∀ ty, (Builtin.copy_ #[22, 22] ty #[.slice (some ⟨B, 0, none⟩) len len, .slice (some x) len cap]).run Try.prog w1 = .ok (.int .i64 (len : Int)) w2) ∧
      Below B w1 w2 ∧ w2.heap.size = w1.heap.size ∧ (∀ k, k < len → w2.cell? ⟨B, k, none⟩ = some (.int .u8 (g k))) := by
  rcases hown.2 with ⟨h', _⟩ | ⟨g', cap', cur, h', hb, hg, hnc, hcm, hcs, htake⟩
  · simp at h'
  · simp only [Value.slice.injEq, Option.some.injEq, Addr.mk.injEq, and_true, true_and] at h'
    obtain ⟨rfl, rfl⟩ := h'
    have hlen : ((List.range len).map fun k => Value.int .u8 (g k)).length = len := by simp
    refine ⟨w1.setRow B (List.take 0 cur.toList ++ ((List.range len).map fun k => Value.int .u8 (g k)) ++ List.drop (0 + len) cur.toList).toArray, fun ty => ?_, below_setRow (Below.refl _ _) (Nat.le_refl _) _, by simp, fun k hk => ?_⟩
    · have := run_copy_row (P := Try.prog) w1 22 22 ty 5 B 0 len len x len cap cur 5 ((List.range len).map fun k => Value.int .u8 (g k)) Try.underlying22 Try.size5 hg (by simp) ?_ (by simp; omega) ?_
      · rw [hlen] at this
        exact this
      · intro j v hj
        have hjl : j < len := by
          have := (List.getElem?_eq_some_iff.1 hj).1
          simpa using this
        rw [hc1 j hjl]
        simp [hjl] at hj
        rw [hj]
      · intro v hv
        obtain ⟨_, _, rfl⟩ := List.mem_map.1 hv
        rfl
    · have hh := setRow_heap w1 B cur (List.take 0 cur.toList ++ ((List.range len).map fun k => Value.int .u8 (g k)) ++ List.drop (0 + len) cur.toList).toArray 5 (0, 0) hg
      simp only [World.cell?, hh]
      have e : (List.map (fun k => Value.int .u8 (g k)) (List.range len) ++ List.drop len cur.toList)[k]? = some (Value.int .u8 (g k)) := by
        rw [List.getElem?_append_left (by simpa using hk)]
        simp [hk]
      simpa using e

theorem zznan_ge (a : Option Addr) (len cap : Nat) (i : Int) (w : World) (hi : (len : Int) ≤ i) :
    Calls Try.prog 21 #[.slice a len cap, .int .i64 i] w fun e w' => e = .returned (.int .i64 i) ∧ w' = w := by
  go_enter Try.func21, Try.ntmps21
  go_wp2_with (go_at_call 26; refine (nanEnd_ge _ _ _ _ _ hi).mono ?_; rintro e w' ⟨rfl, rfl⟩)
  go_ret
  exact ⟨rfl, rfl⟩

theorem zznan_lt (b off len cap : Nat) (g : Nat → Int) (i : Nat) (w : World) (hlen : len ≤ 1000000000000) (hi : i < len) (hg : ∀ k, 0 ≤ g k ∧ g k ≤ 255)
    (hc : ∀ k, k < len → w.cell? ⟨b, off + k, none⟩ = some (.int .u8 (g k))) :
    Calls Try.prog 21 #[.slice (some ⟨b, off, none⟩) len cap, .int .i64 i] w fun e w' => (∃ r : Nat, e = .returned (.int .i64 r) ∧ NanR g len i r) ∧ w' = w := by
  go_enter Try.func21, Try.ntmps21
  go_wp2_with fail
  refine (nanEnd_lt b off len cap g i w hlen hi hg hc).mono ?_
  rintro e w' ⟨⟨r, rfl, hr⟩, rfl⟩
  have HR : Hid (NanR g len i r) := hr
  clear hr
  go_wp2
  go_ret
  exact ⟨⟨r, rfl, HR.out⟩, rfl⟩

theorem neq_nil_some (x : Addr) (len cap : Nat) (w : World) : (binOp .neq 22 (.slice (some x) len cap) (.slice none 0 0)).run Try.prog w = .ok (.bool true) w := by
  simpa using run_neq_slice_nil_any (P := Try.prog) w 22 5 (some x) len cap 0 0 Try.underlying22
theorem neq_nil_none (w : World) : (binOp .neq 22 (.slice none 0 0) (.slice none 0 0)).run Try.prog w = .ok (.bool false) w := by
  simpa using run_neq_slice_nil_any (P := Try.prog) w 22 5 none 0 0 0 0 Try.underlying22

end Go.Proofs.Qxb6617244a
