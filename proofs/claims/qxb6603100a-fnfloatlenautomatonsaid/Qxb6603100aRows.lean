/-
  No cell of these rows narrows 'for every input' (looked for: loops, veiled, ifaces, maps, wideKeys, modest, calm, conditions, laid).
  DERIVED. THE GIVEN ROWS OF THIS SEAT. 3 by the template 'for every input the law returns true; each argument reads behind the call as it read before'; 0 by the template 'total and deterministic' (their statements: Qxb6603100aTotals.lean).
  GIVEN WITH THE SEED: the statements are not yours to turn. If you find one false, say at which input.
  Laid BY PROGRAM, IN A SANDBOX (cutbox-rows.mjs): the forced cells as the released guide's own fill.sh prints them over the translation 319d7f0ae66edd4f… (all of the seat's roots in one cut). By AI agents, Wed Nov 11 2026. No macro, syntax, notation, axiom, sorry.
-/
import Derived.Test.Qxb6603100aChecked
import GoSem.Claim
import GoSem.ClaimJoined
import GoSem.ClaimMapViews
import Derived.JoinedTies
import Derived.KernelRfl
namespace Go.Proofs.Qxb6603100a
/- THE CELL 'sum', in the pinned program and in every row, IS THE sha256 OF THE DUMP (.gsa) THAT Qxb6603100aProg.lean LOADS. Nothing in Lean hashes anything: it is a label: what it is worth is what the hold of that sum in a sandbox is worth. -/
noncomputable def Try.pinned : Pinned := { name := "qxb6603100a", sum := "319d7f0ae66edd4f81f65aa562eae7fc9284a5d274094a1f477d430f19363e89", checked := Try.checked }
namespace Rows
def none {H : Type} : Left H := { results := [], args := [] }

/-- 'zzlaws_internal_syntax_b1.FnKeywordDistinct': WHATEVER THE INPUT: true; the input reads as it did. -/
def fnKeywordDistinctSpec : ChangeSpec := { name := "fnKeywordDistinct", fn := fun _ => fun
  | [d1, d2] => { results := [.lit (.bool true)], args := [d1, d2] }
  | _ => none }
def fnKeywordDistinctRow : OpenClaim := { program := "qxb6603100a", sum := "319d7f0ae66edd4f81f65aa562eae7fc9284a5d274094a1f477d430f19363e89", func := "example.com/weland/weland/zzlaws_internal_syntax_b1.FnKeywordDistinct", spec := "fnKeywordDistinct", apart := false }
def FnKeywordDistinctSaid : Prop := fnKeywordDistinctRow.holds Try.pinned (OpenSpec.ofChange fnKeywordDistinctSpec)

/-- ITS FALSE NEIGHBOUR: 'it returns false'. Refute it at one input. -/
def fnKeywordDistinctWrong : ChangeSpec := { name := "fnKeywordDistinct", fn := fun _ => fun
  | [d1, d2] => { results := [.lit (.bool false)], args := [d1, d2] }
  | _ => none }
def FnKeywordDistinctWrongFalsely : Prop := fnKeywordDistinctRow.holds Try.pinned (OpenSpec.ofChange fnKeywordDistinctWrong)

/-- 'zzlaws_internal_syntax_b1.FnFloatLenAutomaton': WHATEVER THE INPUT: true; the input reads as it did. -/
def fnFloatLenAutomatonSpec : ChangeSpec := { name := "fnFloatLenAutomaton", fn := fun _ => fun
  | [d] => { results := [.lit (.bool true)], args := [d] }
  | _ => none }
def fnFloatLenAutomatonRow : OpenClaim := { program := "qxb6603100a", sum := "319d7f0ae66edd4f81f65aa562eae7fc9284a5d274094a1f477d430f19363e89", func := "example.com/weland/weland/zzlaws_internal_syntax_b1.FnFloatLenAutomaton", spec := "fnFloatLenAutomaton", apart := false }
def FnFloatLenAutomatonSaid : Prop := fnFloatLenAutomatonRow.holds Try.pinned (OpenSpec.ofChange fnFloatLenAutomatonSpec)

/-- ITS FALSE NEIGHBOUR: 'it returns false'. Refute it at one input. -/
def fnFloatLenAutomatonWrong : ChangeSpec := { name := "fnFloatLenAutomaton", fn := fun _ => fun
  | [d] => { results := [.lit (.bool false)], args := [d] }
  | _ => none }
def FnFloatLenAutomatonWrongFalsely : Prop := fnFloatLenAutomatonRow.holds Try.pinned (OpenSpec.ofChange fnFloatLenAutomatonWrong)

/-- 'zzlaws_internal_syntax_b1.FnFloatLenPrefix': WHATEVER THE INPUT: true; the input reads as it did. -/
def fnFloatLenPrefixSpec : ChangeSpec := { name := "fnFloatLenPrefix", fn := fun _ => fun
  | [d1, d2] => { results := [.lit (.bool true)], args := [d1, d2] }
  | _ => none }
def fnFloatLenPrefixRow : OpenClaim := { program := "qxb6603100a", sum := "319d7f0ae66edd4f81f65aa562eae7fc9284a5d274094a1f477d430f19363e89", func := "example.com/weland/weland/zzlaws_internal_syntax_b1.FnFloatLenPrefix", spec := "fnFloatLenPrefix", apart := false }
def FnFloatLenPrefixSaid : Prop := fnFloatLenPrefixRow.holds Try.pinned (OpenSpec.ofChange fnFloatLenPrefixSpec)

/-- ITS FALSE NEIGHBOUR: 'it returns false'. Refute it at one input. -/
def fnFloatLenPrefixWrong : ChangeSpec := { name := "fnFloatLenPrefix", fn := fun _ => fun
  | [d1, d2] => { results := [.lit (.bool false)], args := [d1, d2] }
  | _ => none }
def FnFloatLenPrefixWrongFalsely : Prop := fnFloatLenPrefixRow.holds Try.pinned (OpenSpec.ofChange fnFloatLenPrefixWrong)

end Rows
end Go.Proofs.Qxb6603100a
