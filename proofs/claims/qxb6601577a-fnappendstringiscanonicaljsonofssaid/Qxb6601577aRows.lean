/-
  No cell of these rows narrows 'for every input' (looked for: loops, veiled, ifaces, maps, wideKeys, modest, calm, conditions, laid).
  DERIVED. THE GIVEN ROWS OF THIS SEAT. 3 by the template 'for every input the law returns true; each argument reads behind the call as it read before'; 0 by the template 'total and deterministic' (their statements: Qxb6601577aTotals.lean).
  GIVEN WITH THE SEED: the statements are not yours to turn. If you find one false, say at which input.
  Laid BY PROGRAM, IN A SANDBOX (cutbox-rows.mjs): the forced cells as the released guide's own fill.sh prints them over the translation bc8742e557b180c1… (all of the seat's roots in one cut). By AI agents, Wed Nov 11 2026. No macro, syntax, notation, axiom, sorry.
-/
import Derived.Test.Qxb6601577aChecked
import GoSem.Claim
import GoSem.ClaimJoined
import GoSem.ClaimMapViews
import Derived.JoinedTies
import Derived.KernelRfl
namespace Go.Proofs.Qxb6601577a
/- THE CELL 'sum', in the pinned program and in every row, IS THE sha256 OF THE DUMP (.gsa) THAT Qxb6601577aProg.lean LOADS. Nothing in Lean hashes anything: it is a label: what it is worth is what the hold of that sum in a sandbox is worth. -/
noncomputable def Try.pinned : Pinned := { name := "qxb6601577a", sum := "bc8742e557b180c1a94e5dc4c1bd9cc854b489855c001286af9e189f8353974c", checked := Try.checked }
namespace Rows
def none {H : Type} : Left H := { results := [], args := [] }

/-- 'zzlaws_signedjson_b1.FnAppendStringIsCanonicalJSONOfS': WHATEVER THE INPUT: true; the input reads as it did. -/
def fnAppendStringIsCanonicalJSONOfSSpec : ChangeSpec := { name := "fnAppendStringIsCanonicalJSONOfS", fn := fun _ => fun
  | [d1, d2] => { results := [.lit (.bool true)], args := [d1, d2] }
  | _ => none }
def fnAppendStringIsCanonicalJSONOfSRow : OpenClaim := { program := "qxb6601577a", sum := "bc8742e557b180c1a94e5dc4c1bd9cc854b489855c001286af9e189f8353974c", func := "example.com/sealwire/sealwire/zzlaws_signedjson_b1.FnAppendStringIsCanonicalJSONOfS", spec := "fnAppendStringIsCanonicalJSONOfS", apart := false }
def FnAppendStringIsCanonicalJSONOfSSaid : Prop := fnAppendStringIsCanonicalJSONOfSRow.holds Try.pinned (OpenSpec.ofChange fnAppendStringIsCanonicalJSONOfSSpec)

/-- ITS FALSE NEIGHBOUR: 'it returns false'. Refute it at one input. -/
def fnAppendStringIsCanonicalJSONOfSWrong : ChangeSpec := { name := "fnAppendStringIsCanonicalJSONOfS", fn := fun _ => fun
  | [d1, d2] => { results := [.lit (.bool false)], args := [d1, d2] }
  | _ => none }
def FnAppendStringIsCanonicalJSONOfSWrongFalsely : Prop := fnAppendStringIsCanonicalJSONOfSRow.holds Try.pinned (OpenSpec.ofChange fnAppendStringIsCanonicalJSONOfSWrong)

/-- 'zzlaws_signedjson_b1.FnAppendStringPrefixAndConcat': WHATEVER THE INPUT: true; the input reads as it did. -/
def fnAppendStringPrefixAndConcatSpec : ChangeSpec := { name := "fnAppendStringPrefixAndConcat", fn := fun _ => fun
  | [d1, d2, d3] => { results := [.lit (.bool true)], args := [d1, d2, d3] }
  | _ => none }
def fnAppendStringPrefixAndConcatRow : OpenClaim := { program := "qxb6601577a", sum := "bc8742e557b180c1a94e5dc4c1bd9cc854b489855c001286af9e189f8353974c", func := "example.com/sealwire/sealwire/zzlaws_signedjson_b1.FnAppendStringPrefixAndConcat", spec := "fnAppendStringPrefixAndConcat", apart := false }
def FnAppendStringPrefixAndConcatSaid : Prop := fnAppendStringPrefixAndConcatRow.holds Try.pinned (OpenSpec.ofChange fnAppendStringPrefixAndConcatSpec)

/-- ITS FALSE NEIGHBOUR: 'it returns false'. Refute it at one input. -/
def fnAppendStringPrefixAndConcatWrong : ChangeSpec := { name := "fnAppendStringPrefixAndConcat", fn := fun _ => fun
  | [d1, d2, d3] => { results := [.lit (.bool false)], args := [d1, d2, d3] }
  | _ => none }
def FnAppendStringPrefixAndConcatWrongFalsely : Prop := fnAppendStringPrefixAndConcatRow.holds Try.pinned (OpenSpec.ofChange fnAppendStringPrefixAndConcatWrong)

/-- 'zzlaws_signedjson_b1.FnAppendStringLengthBounds': WHATEVER THE INPUT: true; the input reads as it did. -/
def fnAppendStringLengthBoundsSpec : ChangeSpec := { name := "fnAppendStringLengthBounds", fn := fun _ => fun
  | [d1, d2] => { results := [.lit (.bool true)], args := [d1, d2] }
  | _ => none }
def fnAppendStringLengthBoundsRow : OpenClaim := { program := "qxb6601577a", sum := "bc8742e557b180c1a94e5dc4c1bd9cc854b489855c001286af9e189f8353974c", func := "example.com/sealwire/sealwire/zzlaws_signedjson_b1.FnAppendStringLengthBounds", spec := "fnAppendStringLengthBounds", apart := false }
def FnAppendStringLengthBoundsSaid : Prop := fnAppendStringLengthBoundsRow.holds Try.pinned (OpenSpec.ofChange fnAppendStringLengthBoundsSpec)

/-- ITS FALSE NEIGHBOUR: 'it returns false'. Refute it at one input. -/
def fnAppendStringLengthBoundsWrong : ChangeSpec := { name := "fnAppendStringLengthBounds", fn := fun _ => fun
  | [d1, d2] => { results := [.lit (.bool false)], args := [d1, d2] }
  | _ => none }
def FnAppendStringLengthBoundsWrongFalsely : Prop := fnAppendStringLengthBoundsRow.holds Try.pinned (OpenSpec.ofChange fnAppendStringLengthBoundsWrong)

end Rows
end Go.Proofs.Qxb6601577a
