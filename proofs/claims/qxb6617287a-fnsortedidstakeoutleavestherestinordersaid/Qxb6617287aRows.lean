/-
  No cell of these rows narrows 'for every input' (looked for: loops, veiled, ifaces, maps, wideKeys, modest, calm, conditions, laid).
  DERIVED. THE GIVEN ROWS OF THIS SEAT. 2 by the template 'for every input the law returns true; each argument reads behind the call as it read before'; 0 by the template 'total and deterministic' (their statements: Qxb6617287aTotals.lean).
  GIVEN WITH THE SEED: the statements are not yours to turn. If you find one false, say at which input.
  Laid BY PROGRAM, IN A SANDBOX (cutbox-rows.mjs): the forced cells as the released guide's own fill.sh prints them over the translation 2f42428637aa49b0… (all of the seat's roots in one cut). By AI agents, Wed Nov 11 2026. No macro, syntax, notation, axiom, sorry.
-/
import Derived.Test.Qxb6617287aChecked
import GoSem.Claim
import GoSem.ClaimJoined
import GoSem.ClaimMapViews
import Derived.JoinedTies
import Derived.KernelRfl
namespace Go.Proofs.Qxb6617287a
/- THE CELL 'sum', in the pinned program and in every row, IS THE sha256 OF THE DUMP (.gsa) THAT Qxb6617287aProg.lean LOADS. Nothing in Lean hashes anything: it is a label: what it is worth is what the hold of that sum in a sandbox is worth. -/
noncomputable def Try.pinned : Pinned := { name := "qxb6617287a", sum := "2f42428637aa49b0806ea17b878bfd5d785493f9fe1ad15559ff845061708541", checked := Try.checked }
namespace Rows
def none {H : Type} : Left H := { results := [], args := [] }

/-- 'zzlaws_root_b1.FnSortedIDsTakeOutDrainsFromBothEnds': WHATEVER THE INPUT: true; the input reads as it did. -/
def fnSortedIDsTakeOutDrainsFromBothEndsSpec : ChangeSpec := { name := "fnSortedIDsTakeOutDrainsFromBothEnds", fn := fun _ => fun
  | [d1, d2] => { results := [.lit (.bool true)], args := [d1, d2] }
  | _ => none }
def fnSortedIDsTakeOutDrainsFromBothEndsRow : OpenClaim := { program := "qxb6617287a", sum := "2f42428637aa49b0806ea17b878bfd5d785493f9fe1ad15559ff845061708541", func := "example.com/admit/admit/zzlaws_root_b1.FnSortedIDsTakeOutDrainsFromBothEnds", spec := "fnSortedIDsTakeOutDrainsFromBothEnds", apart := false }
def FnSortedIDsTakeOutDrainsFromBothEndsSaid : Prop := fnSortedIDsTakeOutDrainsFromBothEndsRow.holds Try.pinned (OpenSpec.ofChange fnSortedIDsTakeOutDrainsFromBothEndsSpec)

/-- ITS FALSE NEIGHBOUR: 'it returns false'. Refute it at one input. -/
def fnSortedIDsTakeOutDrainsFromBothEndsWrong : ChangeSpec := { name := "fnSortedIDsTakeOutDrainsFromBothEnds", fn := fun _ => fun
  | [d1, d2] => { results := [.lit (.bool false)], args := [d1, d2] }
  | _ => none }
def FnSortedIDsTakeOutDrainsFromBothEndsWrongFalsely : Prop := fnSortedIDsTakeOutDrainsFromBothEndsRow.holds Try.pinned (OpenSpec.ofChange fnSortedIDsTakeOutDrainsFromBothEndsWrong)

/-- 'zzlaws_root_b1.FnSortedIDsTakeOutLeavesTheRestInOrder': WHATEVER THE INPUT: true; the input reads as it did. -/
def fnSortedIDsTakeOutLeavesTheRestInOrderSpec : ChangeSpec := { name := "fnSortedIDsTakeOutLeavesTheRestInOrder", fn := fun _ => fun
  | [d1, d2, d3] => { results := [.lit (.bool true)], args := [d1, d2, d3] }
  | _ => none }
def fnSortedIDsTakeOutLeavesTheRestInOrderRow : OpenClaim := { program := "qxb6617287a", sum := "2f42428637aa49b0806ea17b878bfd5d785493f9fe1ad15559ff845061708541", func := "example.com/admit/admit/zzlaws_root_b1.FnSortedIDsTakeOutLeavesTheRestInOrder", spec := "fnSortedIDsTakeOutLeavesTheRestInOrder", apart := false }
def FnSortedIDsTakeOutLeavesTheRestInOrderSaid : Prop := fnSortedIDsTakeOutLeavesTheRestInOrderRow.holds Try.pinned (OpenSpec.ofChange fnSortedIDsTakeOutLeavesTheRestInOrderSpec)

/-- ITS FALSE NEIGHBOUR: 'it returns false'. Refute it at one input. -/
def fnSortedIDsTakeOutLeavesTheRestInOrderWrong : ChangeSpec := { name := "fnSortedIDsTakeOutLeavesTheRestInOrder", fn := fun _ => fun
  | [d1, d2, d3] => { results := [.lit (.bool false)], args := [d1, d2, d3] }
  | _ => none }
def FnSortedIDsTakeOutLeavesTheRestInOrderWrongFalsely : Prop := fnSortedIDsTakeOutLeavesTheRestInOrderRow.holds Try.pinned (OpenSpec.ofChange fnSortedIDsTakeOutLeavesTheRestInOrderWrong)

end Rows
end Go.Proofs.Qxb6617287a
