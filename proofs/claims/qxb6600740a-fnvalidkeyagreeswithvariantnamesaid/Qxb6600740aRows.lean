/-
  No cell of these rows narrows 'for every input' (looked for: loops, veiled, ifaces, maps, wideKeys, modest, calm, conditions, laid).
  DERIVED. THE GIVEN ROWS OF THIS SEAT. 3 by the template 'for every input the law returns true; each argument reads behind the call as it read before'; 0 by the template 'total and deterministic' (their statements: Qxb6600740aTotals.lean).
  GIVEN WITH THE SEED: the statements are not yours to turn. If you find one false, say at which input.
  Laid BY PROGRAM, IN A SANDBOX (cutbox-rows.mjs): the forced cells as the released guide's own fill.sh prints them over the translation a5e23b91e30fc768… (all of the seat's roots in one cut). By AI agents, Wed Nov 11 2026. No macro, syntax, notation, axiom, sorry.
-/
import Derived.Test.Qxb6600740aChecked
import GoSem.Claim
import GoSem.ClaimJoined
import GoSem.ClaimMapViews
import Derived.JoinedTies
import Derived.KernelRfl
namespace Go.Proofs.Qxb6600740a
/- THE CELL 'sum', in the pinned program and in every row, IS THE sha256 OF THE DUMP (.gsa) THAT Qxb6600740aProg.lean LOADS. Nothing in Lean hashes anything: it is a label: what it is worth is what the hold of that sum in a sandbox is worth. -/
noncomputable def Try.pinned : Pinned := { name := "qxb6600740a", sum := "a5e23b91e30fc7689371fd3a2d32c30bbbc660143b44ecf1bd2dea04be8ebbe5", checked := Try.checked }
namespace Rows
def none {H : Type} : Left H := { results := [], args := [] }

/-- 'zzlaws_flags_b1.FnValidKeyPrefixClosed': WHATEVER THE INPUT: true; the input reads as it did. -/
def fnValidKeyPrefixClosedSpec : ChangeSpec := { name := "fnValidKeyPrefixClosed", fn := fun _ => fun
  | [d] => { results := [.lit (.bool true)], args := [d] }
  | _ => none }
def fnValidKeyPrefixClosedRow : OpenClaim := { program := "qxb6600740a", sum := "a5e23b91e30fc7689371fd3a2d32c30bbbc660143b44ecf1bd2dea04be8ebbe5", func := "example.com/rheostat/rheostat/zzlaws_flags_b1.FnValidKeyPrefixClosed", spec := "fnValidKeyPrefixClosed", apart := false }
def FnValidKeyPrefixClosedSaid : Prop := fnValidKeyPrefixClosedRow.holds Try.pinned (OpenSpec.ofChange fnValidKeyPrefixClosedSpec)

/-- ITS FALSE NEIGHBOUR: 'it returns false'. Refute it at one input. -/
def fnValidKeyPrefixClosedWrong : ChangeSpec := { name := "fnValidKeyPrefixClosed", fn := fun _ => fun
  | [d] => { results := [.lit (.bool false)], args := [d] }
  | _ => none }
def FnValidKeyPrefixClosedWrongFalsely : Prop := fnValidKeyPrefixClosedRow.holds Try.pinned (OpenSpec.ofChange fnValidKeyPrefixClosedWrong)

/-- 'zzlaws_flags_b1.FnValidVariantNameConcat': WHATEVER THE INPUT: true; the input reads as it did. -/
def fnValidVariantNameConcatSpec : ChangeSpec := { name := "fnValidVariantNameConcat", fn := fun _ => fun
  | [d1, d2] => { results := [.lit (.bool true)], args := [d1, d2] }
  | _ => none }
def fnValidVariantNameConcatRow : OpenClaim := { program := "qxb6600740a", sum := "a5e23b91e30fc7689371fd3a2d32c30bbbc660143b44ecf1bd2dea04be8ebbe5", func := "example.com/rheostat/rheostat/zzlaws_flags_b1.FnValidVariantNameConcat", spec := "fnValidVariantNameConcat", apart := false }
def FnValidVariantNameConcatSaid : Prop := fnValidVariantNameConcatRow.holds Try.pinned (OpenSpec.ofChange fnValidVariantNameConcatSpec)

/-- ITS FALSE NEIGHBOUR: 'it returns false'. Refute it at one input. -/
def fnValidVariantNameConcatWrong : ChangeSpec := { name := "fnValidVariantNameConcat", fn := fun _ => fun
  | [d1, d2] => { results := [.lit (.bool false)], args := [d1, d2] }
  | _ => none }
def FnValidVariantNameConcatWrongFalsely : Prop := fnValidVariantNameConcatRow.holds Try.pinned (OpenSpec.ofChange fnValidVariantNameConcatWrong)

/-- 'zzlaws_flags_b1.FnValidKeyAgreesWithVariantName': WHATEVER THE INPUT: true; the input reads as it did. -/
def fnValidKeyAgreesWithVariantNameSpec : ChangeSpec := { name := "fnValidKeyAgreesWithVariantName", fn := fun _ => fun
  | [d] => { results := [.lit (.bool true)], args := [d] }
  | _ => none }
def fnValidKeyAgreesWithVariantNameRow : OpenClaim := { program := "qxb6600740a", sum := "a5e23b91e30fc7689371fd3a2d32c30bbbc660143b44ecf1bd2dea04be8ebbe5", func := "example.com/rheostat/rheostat/zzlaws_flags_b1.FnValidKeyAgreesWithVariantName", spec := "fnValidKeyAgreesWithVariantName", apart := false }
def FnValidKeyAgreesWithVariantNameSaid : Prop := fnValidKeyAgreesWithVariantNameRow.holds Try.pinned (OpenSpec.ofChange fnValidKeyAgreesWithVariantNameSpec)

/-- ITS FALSE NEIGHBOUR: 'it returns false'. Refute it at one input. -/
def fnValidKeyAgreesWithVariantNameWrong : ChangeSpec := { name := "fnValidKeyAgreesWithVariantName", fn := fun _ => fun
  | [d] => { results := [.lit (.bool false)], args := [d] }
  | _ => none }
def FnValidKeyAgreesWithVariantNameWrongFalsely : Prop := fnValidKeyAgreesWithVariantNameRow.holds Try.pinned (OpenSpec.ofChange fnValidKeyAgreesWithVariantNameWrong)

end Rows
end Go.Proofs.Qxb6600740a
