/-
  No cell of these rows narrows 'for every input' (looked for: loops, veiled, ifaces, maps, wideKeys, modest, calm, conditions, laid).
  DERIVED. THE GIVEN ROWS OF THIS SEAT. 2 by the template 'for every input the law returns true; each argument reads behind the call as it read before'; 0 by the template 'total and deterministic' (their statements: Qxb6605255aTotals.lean).
  GIVEN WITH THE SEED: the statements are not yours to turn. If you find one false, say at which input.
  Laid BY PROGRAM, IN A SANDBOX (cutbox-rows.mjs): the forced cells as the released guide's own fill.sh prints them over the translation 3b4471468695b290… (all of the seat's roots in one cut). By AI agents, Wed Nov 11 2026. No macro, syntax, notation, axiom, sorry.
-/
import Derived.Test.Qxb6605255aChecked
import GoSem.Claim
import GoSem.ClaimJoined
import GoSem.ClaimMapViews
import Derived.JoinedTies
import Derived.KernelRfl
namespace Go.Proofs.Qxb6605255a
/- THE CELL 'sum', in the pinned program and in every row, IS THE sha256 OF THE DUMP (.gsa) THAT Qxb6605255aProg.lean LOADS. Nothing in Lean hashes anything: it is a label: what it is worth is what the hold of that sum in a sandbox is worth. -/
noncomputable def Try.pinned : Pinned := { name := "qxb6605255a", sum := "3b4471468695b290942f9e57aa4f73cdaec6efcb9a47c3674e40f114b19c3d7a", checked := Try.checked }
namespace Rows
def none {H : Type} : Left H := { results := [], args := [] }

/-- 'zzlaws_pkg_role_b1.FnVerbListLaysVerbsBetweenAnds': WHATEVER THE INPUT: true; the input reads as it did. -/
def fnVerbListLaysVerbsBetweenAndsSpec : ChangeSpec := { name := "fnVerbListLaysVerbsBetweenAnds", fn := fun _ => fun
  | [d] => { results := [.lit (.bool true)], args := [d] }
  | _ => none }
def fnVerbListLaysVerbsBetweenAndsRow : OpenClaim := { program := "qxb6605255a", sum := "3b4471468695b290942f9e57aa4f73cdaec6efcb9a47c3674e40f114b19c3d7a", func := "example.com/custodian/custodian/zzlaws_pkg_role_b1.FnVerbListLaysVerbsBetweenAnds", spec := "fnVerbListLaysVerbsBetweenAnds", inPlace := ["internal/abi.NoEscape", "internal/bytealg.MakeNoZero"], apart := false }
def FnVerbListLaysVerbsBetweenAndsSaid : Prop := fnVerbListLaysVerbsBetweenAndsRow.holds Try.pinned (OpenSpec.ofChange fnVerbListLaysVerbsBetweenAndsSpec)

/-- ITS FALSE NEIGHBOUR: 'it returns false'. Refute it at one input. -/
def fnVerbListLaysVerbsBetweenAndsWrong : ChangeSpec := { name := "fnVerbListLaysVerbsBetweenAnds", fn := fun _ => fun
  | [d] => { results := [.lit (.bool false)], args := [d] }
  | _ => none }
def FnVerbListLaysVerbsBetweenAndsWrongFalsely : Prop := fnVerbListLaysVerbsBetweenAndsRow.holds Try.pinned (OpenSpec.ofChange fnVerbListLaysVerbsBetweenAndsWrong)

/-- 'zzlaws_pkg_role_b1.FnVerbListSplitsAtAJoint': WHATEVER THE INPUT: true; the input reads as it did. -/
def fnVerbListSplitsAtAJointSpec : ChangeSpec := { name := "fnVerbListSplitsAtAJoint", fn := fun _ => fun
  | [d1, d2] => { results := [.lit (.bool true)], args := [d1, d2] }
  | _ => none }
def fnVerbListSplitsAtAJointRow : OpenClaim := { program := "qxb6605255a", sum := "3b4471468695b290942f9e57aa4f73cdaec6efcb9a47c3674e40f114b19c3d7a", func := "example.com/custodian/custodian/zzlaws_pkg_role_b1.FnVerbListSplitsAtAJoint", spec := "fnVerbListSplitsAtAJoint", inPlace := ["internal/abi.NoEscape", "internal/bytealg.MakeNoZero"], apart := false }
def FnVerbListSplitsAtAJointSaid : Prop := fnVerbListSplitsAtAJointRow.holds Try.pinned (OpenSpec.ofChange fnVerbListSplitsAtAJointSpec)

/-- ITS FALSE NEIGHBOUR: 'it returns false'. Refute it at one input. -/
def fnVerbListSplitsAtAJointWrong : ChangeSpec := { name := "fnVerbListSplitsAtAJoint", fn := fun _ => fun
  | [d1, d2] => { results := [.lit (.bool false)], args := [d1, d2] }
  | _ => none }
def FnVerbListSplitsAtAJointWrongFalsely : Prop := fnVerbListSplitsAtAJointRow.holds Try.pinned (OpenSpec.ofChange fnVerbListSplitsAtAJointWrong)

end Rows
end Go.Proofs.Qxb6605255a
