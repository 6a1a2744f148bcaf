import Derived.Test.Qxb6617287aGuards
import Derived.Deep.Strs
import Derived.OpenShut
namespace Go.Proofs.Qxb6617287a
open Go.RowKit Go.ChangeShapes Go.WideShapes Go.Deep

theorem Try.cells27 : Try.prog.cellsOf 27 = 1 := by kernel_rfl
theorem Try.cells9 : Try.prog.cellsOf 9 = 1 := by kernel_rfl
theorem Try.cells4 : Try.prog.cellsOf 4 = 1 := by kernel_rfl

/-- What a walk is told of runs that came in. -/
def RunsIn (w : World) (a : Option Addr) (n cap : Nat) : Prop :=
  (a = none ∧ n = 0 ∧ cap = 0) ∨ (n ≤ maxLen ∧ ∃ x, a = some x ∧ (0 < n → ∃ b off A L C IB JO S, x = ⟨b, off, none⟩ ∧ RunsW w b off n A L C IB JO S))

theorem plain_of_cell {w : World} {x : Addr} {v : Value} (h : w.cell? (x.add 0) = some v) : x = ⟨x.block, x.off, none⟩ := by
  obtain ⟨b, off, spot⟩ := x
  have hspot : spot = none := by simpa [Addr.add] using World.cell?_spot h
  subst hspot
  rfl

section
variable {H : Type} {enc : TypeId × Value → H} {w : World} {base : Nat} {held : Bool}

theorem open_run {fuel : Nat} {v : Value} {x : DataW H × List MemPlace} (h : DataW.trod enc Try.prog w base (fun _ => true) held fuel 27 [v] = some x) :
    ∃ y : Option Addr × Nat × Nat × Nat × Nat × (Nat → ByteArray), v = .slice y.1 y.2.1 y.2.2.1 ∧ y.2.1 ≤ maxLen ∧ (0 < y.2.1 → y.1 = some ⟨y.2.2.2.1, y.2.2.2.2.1, none⟩) ∧
      ∀ j, j < y.2.1 → w.cell? ⟨y.2.2.2.1, y.2.2.2.2.1 + j, none⟩ = some (.string (y.2.2.2.2.2 j)) ∧ (y.2.2.2.2.2 j).size ≤ maxLen := by
  rcases open_strs Try.underlying27 Try.underlying9 Try.cells9 h with ⟨hcs, _⟩ | ⟨a, len, cap, m, Sx, hcs, _, hl, hm, hmm, _, hcell⟩
  · exact ⟨(none, 0, 0, 0, 0, fun _ => ByteArray.empty), by simpa using hcs, Nat.zero_le _, fun h => absurd h (Nat.lt_irrefl 0), fun j hj => absurd hj (Nat.not_lt_zero _)⟩
  · simp only [if_true] at hmm
    refine ⟨(some a, len, cap, a.block, a.off, Sx), by simpa using hcs, by show len ≤ maxLen; omega, fun hp => ?_, fun j hj => ?_⟩
    · have hp' : 0 < len := hp
      have := (hcell 0 (by omega)).1
      rw [← plain_of_cell this]
    · have hj' : j < len := hj
      have h0 := (hcell 0 (by omega)).1
      have hj := hcell j (by omega)
      rw [plain_of_cell h0, Addr.add_lit] at hj
      exact hj

theorem open_runs {fuel : Nat} {a : Option Addr} {n cap : Nat} {x : DataW H × List MemPlace} (h : DataW.trod enc Try.prog w base (fun _ => true) held fuel 22 [.slice a n cap] = some x) : RunsIn w a n cap := by
  rcases open_slice1 Try.underlying22 Try.cells27 h with ⟨hcs, _⟩ | ⟨a', len, cap', m, k, V, D, Pl, hcs, _, hl, hm, hmm, _, hx⟩
  · simp at hcs
    exact Or.inl hcs
  · simp at hcs
    obtain ⟨rfl, rfl, rfl⟩ := hcs
    simp only [if_true] at hmm
    subst hmm
    obtain ⟨y, hy⟩ := choose_lt (n := m) (fun r hr => open_run (hx r hr).2)
    refine Or.inr ⟨by omega, a', rfl, fun hp => ?_⟩
    have hpl := plain_of_cell (hx 0 (by omega)).1
    refine ⟨a'.block, a'.off, fun r => (y r).1, fun r => (y r).2.1, fun r => (y r).2.2.1, fun r => (y r).2.2.2.1, fun r => (y r).2.2.2.2.1, fun r => (y r).2.2.2.2.2, hpl, fun r hr => ?_⟩
    obtain ⟨h1, h2, h3, h4⟩ := hy r (by omega)
    have hc := (hx r (by omega)).1
    rw [hpl, Addr.add_lit, h1] at hc
    exact ⟨hc, h2, h3, h4⟩

/-- What a walk is told of a []bool that came in. -/
def BoolsIn (w : World) (a : Option Addr) (n : Nat) : Prop := n ≤ maxLen ∧ (0 < n → ∃ b off, a = some ⟨b, off, none⟩ ∧ ∃ f : Nat → Bool, ∀ k, k < n → w.cell? ⟨b, off + k, none⟩ = some (.bool (f k)))

theorem open_bools {fuel : Nat} {a : Option Addr} {n cap : Nat} {x : DataW H × List MemPlace} (h : DataW.trod enc Try.prog w base (fun _ => true) held fuel 23 [.slice a n cap] = some x) : BoolsIn w a n := by
  rcases open_slice1 Try.underlying23 Try.cells4 h with ⟨hcs, _⟩ | ⟨a', len, cap', m, k, V, D, Pl, hcs, _, hl, hm, hmm, _, hx⟩
  · simp at hcs
    obtain ⟨_, rfl, _⟩ := hcs
    exact ⟨Nat.zero_le _, fun h => absurd h (Nat.lt_irrefl 0)⟩
  · simp at hcs
    obtain ⟨rfl, rfl, rfl⟩ := hcs
    simp only [if_true] at hmm
    subst hmm
    refine ⟨by omega, fun hp => ?_⟩
    have hpl := plain_of_cell (hx 0 (by omega)).1
    obtain ⟨f, hf⟩ := choose_lt (n := m) (p := fun i (q : Bool) => V i = .bool q) (fun i hi => by
      obtain ⟨q, h1, _⟩ := DataW.trod_bool Try.underlying4 (hx i hi).2
      exact ⟨q, by simpa using h1⟩)
    refine ⟨a'.block, a'.off, congrArg some hpl, f, fun i hi => ?_⟩
    have hc := (hx i (by omega)).1
    rw [hpl, Addr.add_lit, hf i (by omega)] at hc
    exact hc
end
end Go.Proofs.Qxb6617287a
