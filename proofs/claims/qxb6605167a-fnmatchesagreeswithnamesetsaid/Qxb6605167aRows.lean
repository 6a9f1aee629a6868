/-
  No cell of these rows narrows 'for every input' (looked for: loops, veiled, ifaces, maps, wideKeys, modest, calm, conditions, laid).
  DERIVED. THE GIVEN ROWS OF THIS SEAT. 1 by the template 'for every input the law returns true; each argument reads behind the call as it read before'; 0 by the template 'total and deterministic' (their statements: Qxb6605167aTotals.lean).
  GIVEN WITH THE SEED: the statements are not yours to turn. If you find one false, say at which input.
  Laid BY PROGRAM, IN A SANDBOX (cutbox-rows.mjs): the forced cells as the released guide's own fill.sh prints them over the translation 86e1df604c6a6132… (all of the seat's roots in one cut). By AI agents, Wed Nov 11 2026. No macro, syntax, notation, axiom, sorry.
-/
import Derived.Test.Qxb6605167aChecked
import GoSem.Claim
import GoSem.ClaimJoined
import GoSem.ClaimMapViews
import Derived.JoinedTies
import Derived.KernelRfl
namespace Go.Proofs.Qxb6605167a
/- THE CELL 'sum', in the pinned program and in every row, IS THE sha256 OF THE DUMP (.gsa) THAT Qxb6605167aProg.lean LOADS. Nothing in Lean hashes anything: it is a label: what it is worth is what the hold of that sum in a sandbox is worth. -/
noncomputable def Try.pinned : Pinned := { name := "qxb6605167a", sum := "86e1df604c6a61329eb4add25b80d392e0785a1711ddc3a2cf7b7de0b3fb7c57", checked := Try.checked }
namespace Rows
def none {H : Type} : Left H := { results := [], args := [] }

/-- 'zzlaws_internal_node_b1.FnMatchesAgreesWithNameSet': WHATEVER THE INPUT: true; the input reads as it did. -/
def fnMatchesAgreesWithNameSetSpec : ChangeSpec := { name := "fnMatchesAgreesWithNameSet", fn := fun _ => fun
  | [d1, d2, d3, d4] => { results := [.lit (.bool true)], args := [d1, d2, d3, d4] }
  | _ => none }
def fnMatchesAgreesWithNameSetRow : OpenClaim := { program := "qxb6605167a", sum := "86e1df604c6a61329eb4add25b80d392e0785a1711ddc3a2cf7b7de0b3fb7c57", func := "example.com/heliotrope/heliotrope/zzlaws_internal_node_b1.FnMatchesAgreesWithNameSet", spec := "fnMatchesAgreesWithNameSet", apart := false }
def FnMatchesAgreesWithNameSetSaid : Prop := fnMatchesAgreesWithNameSetRow.holds Try.pinned (OpenSpec.ofChange fnMatchesAgreesWithNameSetSpec)

/-- ITS FALSE NEIGHBOUR: 'it returns false'. Refute it at one input. -/
def fnMatchesAgreesWithNameSetWrong : ChangeSpec := { name := "fnMatchesAgreesWithNameSet", fn := fun _ => fun
  | [d1, d2, d3, d4] => { results := [.lit (.bool false)], args := [d1, d2, d3, d4] }
  | _ => none }
def FnMatchesAgreesWithNameSetWrongFalsely : Prop := fnMatchesAgreesWithNameSetRow.holds Try.pinned (OpenSpec.ofChange fnMatchesAgreesWithNameSetWrong)

end Rows
end Go.Proofs.Qxb6605167a
