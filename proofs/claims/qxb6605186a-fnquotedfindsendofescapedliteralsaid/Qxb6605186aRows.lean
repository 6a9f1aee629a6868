/-
  No cell of these rows narrows 'for every input' (looked for: loops, veiled, ifaces, maps, wideKeys, modest, calm, conditions, laid).
  DERIVED. THE GIVEN ROWS OF THIS SEAT. 2 by the template 'for every input the law returns true; each argument reads behind the call as it read before'; 0 by the template 'total and deterministic' (their statements: Qxb6605186aTotals.lean).
  GIVEN WITH THE SEED: the statements are not yours to turn. If you find one false, say at which input.
  Laid BY PROGRAM, IN A SANDBOX (cutbox-rows.mjs): the forced cells as the released guide's own fill.sh prints them over the translation 74863539997ad258… (all of the seat's roots in one cut). By AI agents, Wed Nov 11 2026. No macro, syntax, notation, axiom, sorry.
-/
import Derived.Test.Qxb6605186aChecked
import GoSem.Claim
import GoSem.ClaimJoined
import GoSem.ClaimMapViews
import Derived.JoinedTies
import Derived.KernelRfl
namespace Go.Proofs.Qxb6605186a
/- THE CELL 'sum', in the pinned program and in every row, IS THE sha256 OF THE DUMP (.gsa) THAT Qxb6605186aProg.lean LOADS. Nothing in Lean hashes anything: it is a label: what it is worth is what the hold of that sum in a sandbox is worth. -/
noncomputable def Try.pinned : Pinned := { name := "qxb6605186a", sum := "74863539997ad2586fd45a3321d4283d5e7f1a3faeba2d73db9de63ed38e8ffb", checked := Try.checked }
namespace Rows
def none {H : Type} : Left H := { results := [], args := [] }

/-- 'zzlaws_internal_state_b1.FnQuotedMatchesBackslashRunModel': WHATEVER THE INPUT: true; the input reads as it did. -/
def fnQuotedMatchesBackslashRunModelSpec : ChangeSpec := { name := "fnQuotedMatchesBackslashRunModel", fn := fun _ => fun
  | [d] => { results := [.lit (.bool true)], args := [d] }
  | _ => none }
def fnQuotedMatchesBackslashRunModelRow : OpenClaim := { program := "qxb6605186a", sum := "74863539997ad2586fd45a3321d4283d5e7f1a3faeba2d73db9de63ed38e8ffb", func := "example.com/loomgraph/loomgraph/zzlaws_internal_state_b1.FnQuotedMatchesBackslashRunModel", spec := "fnQuotedMatchesBackslashRunModel", apart := false }
def FnQuotedMatchesBackslashRunModelSaid : Prop := fnQuotedMatchesBackslashRunModelRow.holds Try.pinned (OpenSpec.ofChange fnQuotedMatchesBackslashRunModelSpec)

/-- ITS FALSE NEIGHBOUR: 'it returns false'. Refute it at one input. -/
def fnQuotedMatchesBackslashRunModelWrong : ChangeSpec := { name := "fnQuotedMatchesBackslashRunModel", fn := fun _ => fun
  | [d] => { results := [.lit (.bool false)], args := [d] }
  | _ => none }
def FnQuotedMatchesBackslashRunModelWrongFalsely : Prop := fnQuotedMatchesBackslashRunModelRow.holds Try.pinned (OpenSpec.ofChange fnQuotedMatchesBackslashRunModelWrong)

/-- 'zzlaws_internal_state_b1.FnQuotedFindsEndOfEscapedLiteral': WHATEVER THE INPUT: true; the input reads as it did. -/
def fnQuotedFindsEndOfEscapedLiteralSpec : ChangeSpec := { name := "fnQuotedFindsEndOfEscapedLiteral", fn := fun _ => fun
  | [d1, d2] => { results := [.lit (.bool true)], args := [d1, d2] }
  | _ => none }
def fnQuotedFindsEndOfEscapedLiteralRow : OpenClaim := { program := "qxb6605186a", sum := "74863539997ad2586fd45a3321d4283d5e7f1a3faeba2d73db9de63ed38e8ffb", func := "example.com/loomgraph/loomgraph/zzlaws_internal_state_b1.FnQuotedFindsEndOfEscapedLiteral", spec := "fnQuotedFindsEndOfEscapedLiteral", apart := false }
def FnQuotedFindsEndOfEscapedLiteralSaid : Prop := fnQuotedFindsEndOfEscapedLiteralRow.holds Try.pinned (OpenSpec.ofChange fnQuotedFindsEndOfEscapedLiteralSpec)

/-- ITS FALSE NEIGHBOUR: 'it returns false'. Refute it at one input. -/
def fnQuotedFindsEndOfEscapedLiteralWrong : ChangeSpec := { name := "fnQuotedFindsEndOfEscapedLiteral", fn := fun _ => fun
  | [d1, d2] => { results := [.lit (.bool false)], args := [d1, d2] }
  | _ => none }
def FnQuotedFindsEndOfEscapedLiteralWrongFalsely : Prop := fnQuotedFindsEndOfEscapedLiteralRow.holds Try.pinned (OpenSpec.ofChange fnQuotedFindsEndOfEscapedLiteralWrong)

end Rows
end Go.Proofs.Qxb6605186a
