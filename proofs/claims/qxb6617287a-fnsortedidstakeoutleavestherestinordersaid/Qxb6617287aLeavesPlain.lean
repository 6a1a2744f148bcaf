/- What the law 'leaves the rest in order' gathers, as lists. -/
import Derived.Test.Qxb6617287aErase
namespace Go.Proofs.Qxb6617287a

/-- The first k ids without the one at pl. -/
def wl (F : List ByteArray) (pl k : Nat) : List ByteArray := (F.take k).eraseIdx pl
theorem wl_zero (F : List ByteArray) (pl : Nat) : wl F pl 0 = [] := by simp [wl]
theorem wl_skip (F : List ByteArray) (pl : Nat) (h : pl < F.length) : wl F pl (pl + 1) = wl F pl pl := by
  unfold wl
  rw [List.take_succ_eq_append_getElem h, List.eraseIdx_append_of_length_le (by simp; omega), List.eraseIdx_of_length_le (l := F.take pl) (by simp; omega)]
  have : pl - (F.take pl).length = 0 := by simp; omega
  rw [this]
  simp
theorem wl_keep (F : List ByteArray) (pl k : Nat) (hk : k ≠ pl) (X : ByteArray) (hX : F[k]? = some X) : wl F pl (k + 1) = wl F pl k ++ [X] := by
  obtain ⟨hlt, he⟩ := List.getElem?_eq_some_iff.1 hX
  unfold wl
  rw [List.take_succ_eq_append_getElem hlt, he]
  by_cases c : k < pl
  · rw [List.eraseIdx_of_length_le (by simp; omega), List.eraseIdx_of_length_le (by simp; omega)]
  · rw [List.eraseIdx_append_of_lt_length (by simp; omega)]
theorem wl_all (F : List ByteArray) (pl : Nat) : wl F pl F.length = F.eraseIdx pl := by simp [wl]
theorem wl_le (F : List ByteArray) (pl k : Nat) : (wl F pl k).length ≤ k := by
  unfold wl
  have h1 := List.length_eraseIdx_le (F.take k) pl
  have h2 := List.length_take_le k F
  omega

/-- The lengths that are wanted of the first r runs. -/
def ll (L : Nat → Nat) (i : Nat) : Nat → List Nat
  | 0 => []
  | r + 1 => ll L i r ++ (if r = i then (if L r = 1 then [] else [L r - 1]) else [L r])
theorem ll_le (L : Nat → Nat) (i r : Nat) : (ll L i r).length ≤ r := by
  induction r with
  | zero => simp [ll]
  | succ r ih =>
    simp only [ll, List.length_append]
    split
    · split
      · simp; omega
      · simp; omega
    · simp; omega
theorem ll_one (L : Nat → Nat) (i : Nat) (h1 : L i = 1) (r : Nat) : ll L i r = (List.range (if i < r then r - 1 else r)).map (sh i L) := by
  induction r with
  | zero => simp [ll]
  | succ r ih =>
    simp only [ll, ih]
    by_cases c : r = i
    · subst c
      simp [h1]
    · rw [if_neg c]
      by_cases c2 : i < r
      · rw [if_pos c2, if_pos (by omega)]
        obtain ⟨q, rfl⟩ : ∃ q, r = q + 1 := ⟨r - 1, by omega⟩
        show _ = List.map (sh i L) (List.range (q + 1))
        rw [List.range_succ, List.map_append]
        simp [sh_ge (show ¬ q < i by omega)]
      · rw [if_neg c2, if_neg (by omega), List.range_succ, List.map_append]
        simp [sh_lt (show r < i by omega)]
theorem ll_more (L : Nat → Nat) (i : Nat) (h1 : L i ≠ 1) (r : Nat) : ll L i r = (List.range r).map (upd i (L i - 1) L) := by
  induction r with
  | zero => simp [ll]
  | succ r ih =>
    simp only [ll, ih, List.range_succ, List.map_append]
    by_cases c : r = i
    · subst c
      simp [h1, upd_same]
    · simp [c, upd_ne c]
theorem TakeP.lens {n i at' m' : Nat} {L ln' : Nat → Nat} {S T' : Nat → Nat → ByteArray} (h : TakeP n i at' L S m' ln' T') (hi : i < n) : ll L i n = (List.range m').map ln' := by
  rcases h with ⟨h1, rfl, rfl, rfl⟩ | ⟨h1, rfl, rfl, rfl⟩
  · rw [ll_one L i h1, if_pos hi]
  · exact ll_more L i h1 m'
end Go.Proofs.Qxb6617287a
