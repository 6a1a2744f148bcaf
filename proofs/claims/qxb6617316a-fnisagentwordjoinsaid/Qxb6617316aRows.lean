/-
  No cell of these rows narrows 'for every input' (looked for: loops, veiled, ifaces, maps, wideKeys, modest, calm, conditions, laid).
  DERIVED. THE GIVEN ROWS OF THIS SEAT. 1 by the template 'for every input the law returns true; each argument reads behind the call as it read before'; 0 by the template 'total and deterministic' (their statements: Qxb6617316aTotals.lean).
  GIVEN WITH THE SEED: the statements are not yours to turn. If you find one false, say at which input.
  Laid BY PROGRAM, IN A SANDBOX (cutbox-rows.mjs): the forced cells as the released guide's own fill.sh prints them over the translation 2c736267f46e39b0… (all of the seat's roots in one cut). By AI agents, Wed Nov 11 2026. No macro, syntax, notation, axiom, sorry.
-/
import Derived.Test.Qxb6617316aChecked
import GoSem.Claim
import GoSem.ClaimJoined
import GoSem.ClaimMapViews
import Derived.JoinedTies
import Derived.KernelRfl
namespace Go.Proofs.Qxb6617316a
/- THE CELL 'sum', in the pinned program and in every row, IS THE sha256 OF THE DUMP (.gsa) THAT Qxb6617316aProg.lean LOADS. Nothing in Lean hashes anything: it is a label: what it is worth is what the hold of that sum in a sandbox is worth. -/
noncomputable def Try.pinned : Pinned := { name := "qxb6617316a", sum := "2c736267f46e39b075bdf3f6378309d7b9b563cbcef17aadedf10e6d3191d056", checked := Try.checked }
namespace Rows
def none {H : Type} : Left H := { results := [], args := [] }

/-- 'zzlaws_pkg_api_b1.FnIsAgentWordJoin': WHATEVER THE INPUT: true; the input reads as it did. -/
def fnIsAgentWordJoinSpec : ChangeSpec := { name := "fnIsAgentWordJoin", fn := fun _ => fun
  | [d1, d2] => { results := [.lit (.bool true)], args := [d1, d2] }
  | _ => none }
def fnIsAgentWordJoinRow : OpenClaim := { program := "qxb6617316a", sum := "2c736267f46e39b075bdf3f6378309d7b9b563cbcef17aadedf10e6d3191d056", func := "example.com/holdfast/holdfast/zzlaws_pkg_api_b1.FnIsAgentWordJoin", spec := "fnIsAgentWordJoin", apart := false }
def FnIsAgentWordJoinSaid : Prop := fnIsAgentWordJoinRow.holds Try.pinned (OpenSpec.ofChange fnIsAgentWordJoinSpec)

/-- ITS FALSE NEIGHBOUR: 'it returns false'. Refute it at one input. -/
def fnIsAgentWordJoinWrong : ChangeSpec := { name := "fnIsAgentWordJoin", fn := fun _ => fun
  | [d1, d2] => { results := [.lit (.bool false)], args := [d1, d2] }
  | _ => none }
def FnIsAgentWordJoinWrongFalsely : Prop := fnIsAgentWordJoinRow.holds Try.pinned (OpenSpec.ofChange fnIsAgentWordJoinWrong)

end Rows
end Go.Proofs.Qxb6617316a
