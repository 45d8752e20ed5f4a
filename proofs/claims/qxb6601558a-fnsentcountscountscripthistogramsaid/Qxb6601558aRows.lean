/-
  No cell of these rows narrows 'for every input' (looked for: loops, veiled, ifaces, maps, wideKeys, modest, calm, conditions, laid).
  DERIVED. THE GIVEN ROWS OF THIS SEAT. 3 by the template 'for every input the law returns true; each argument reads behind the call as it read before'; 0 by the template 'total and deterministic' (their statements: Qxb6601558aTotals.lean).
  GIVEN WITH THE SEED: the statements are not yours to turn. If you find one false, say at which input.
  Laid BY PROGRAM, IN A SANDBOX (cutbox-rows.mjs): the forced cells as the released guide's own fill.sh prints them over the translation b958a72787305a54… (all of the seat's roots in one cut). By AI agents, Wed Nov 11 2026. No macro, syntax, notation, axiom, sorry.
-/
import Derived.Test.Qxb6601558aChecked
import GoSem.Claim
import GoSem.ClaimJoined
import GoSem.ClaimMapViews
import Derived.JoinedTies
import Derived.KernelRfl
namespace Go.Proofs.Qxb6601558a
/- THE CELL 'sum', in the pinned program and in every row, IS THE sha256 OF THE DUMP (.gsa) THAT Qxb6601558aProg.lean LOADS. Nothing in Lean hashes anything: it is a label: what it is worth is what the hold of that sum in a sandbox is worth. -/
noncomputable def Try.pinned : Pinned := { name := "qxb6601558a", sum := "b958a72787305a54f3691a7d91262d5cdd338806c3e9e0572c828a0a71a2af84", checked := Try.checked }
namespace Rows
def none {H : Type} : Left H := { results := [], args := [] }

/-- 'zzlaws_root_b1.FnWrongResultTwiceRestores': WHATEVER THE INPUT: true; the input reads as it did. -/
def fnWrongResultTwiceRestoresSpec : ChangeSpec := { name := "fnWrongResultTwiceRestores", fn := fun _ => fun
  | [d] => { results := [.lit (.bool true)], args := [d] }
  | _ => none }
def fnWrongResultTwiceRestoresRow : OpenClaim := { program := "qxb6601558a", sum := "b958a72787305a54f3691a7d91262d5cdd338806c3e9e0572c828a0a71a2af84", func := "example.com/threefold/threefold/zzlaws_root_b1.FnWrongResultTwiceRestores", spec := "fnWrongResultTwiceRestores", apart := false }
def FnWrongResultTwiceRestoresSaid : Prop := fnWrongResultTwiceRestoresRow.holds Try.pinned (OpenSpec.ofChange fnWrongResultTwiceRestoresSpec)

/-- ITS FALSE NEIGHBOUR: 'it returns false'. Refute it at one input. -/
def fnWrongResultTwiceRestoresWrong : ChangeSpec := { name := "fnWrongResultTwiceRestores", fn := fun _ => fun
  | [d] => { results := [.lit (.bool false)], args := [d] }
  | _ => none }
def FnWrongResultTwiceRestoresWrongFalsely : Prop := fnWrongResultTwiceRestoresRow.holds Try.pinned (OpenSpec.ofChange fnWrongResultTwiceRestoresWrong)

/-- 'zzlaws_root_b1.FnWrongResultBreaksASCII': WHATEVER THE INPUT: true; the input reads as it did. -/
def fnWrongResultBreaksASCIISpec : ChangeSpec := { name := "fnWrongResultBreaksASCII", fn := fun _ => fun
  | [d] => { results := [.lit (.bool true)], args := [d] }
  | _ => none }
def fnWrongResultBreaksASCIIRow : OpenClaim := { program := "qxb6601558a", sum := "b958a72787305a54f3691a7d91262d5cdd338806c3e9e0572c828a0a71a2af84", func := "example.com/threefold/threefold/zzlaws_root_b1.FnWrongResultBreaksASCII", spec := "fnWrongResultBreaksASCII", apart := false }
def FnWrongResultBreaksASCIISaid : Prop := fnWrongResultBreaksASCIIRow.holds Try.pinned (OpenSpec.ofChange fnWrongResultBreaksASCIISpec)

/-- ITS FALSE NEIGHBOUR: 'it returns false'. Refute it at one input. -/
def fnWrongResultBreaksASCIIWrong : ChangeSpec := { name := "fnWrongResultBreaksASCII", fn := fun _ => fun
  | [d] => { results := [.lit (.bool false)], args := [d] }
  | _ => none }
def FnWrongResultBreaksASCIIWrongFalsely : Prop := fnWrongResultBreaksASCIIRow.holds Try.pinned (OpenSpec.ofChange fnWrongResultBreaksASCIIWrong)

/-- 'zzlaws_root_b1.FnSentCountsCountScriptHistogram': WHATEVER THE INPUT: true; the input reads as it did. -/
def fnSentCountsCountScriptHistogramSpec : ChangeSpec := { name := "fnSentCountsCountScriptHistogram", fn := fun _ => fun
  | [d1, d2, d3, d4] => { results := [.lit (.bool true)], args := [d1, d2, d3, d4] }
  | _ => none }
def fnSentCountsCountScriptHistogramRow : OpenClaim := { program := "qxb6601558a", sum := "b958a72787305a54f3691a7d91262d5cdd338806c3e9e0572c828a0a71a2af84", func := "example.com/threefold/threefold/zzlaws_root_b1.FnSentCountsCountScriptHistogram", spec := "fnSentCountsCountScriptHistogram", apart := false }
def FnSentCountsCountScriptHistogramSaid : Prop := fnSentCountsCountScriptHistogramRow.holds Try.pinned (OpenSpec.ofChange fnSentCountsCountScriptHistogramSpec)

/-- ITS FALSE NEIGHBOUR: 'it returns false'. Refute it at one input. -/
def fnSentCountsCountScriptHistogramWrong : ChangeSpec := { name := "fnSentCountsCountScriptHistogram", fn := fun _ => fun
  | [d1, d2, d3, d4] => { results := [.lit (.bool false)], args := [d1, d2, d3, d4] }
  | _ => none }
def FnSentCountsCountScriptHistogramWrongFalsely : Prop := fnSentCountsCountScriptHistogramRow.holds Try.pinned (OpenSpec.ofChange fnSentCountsCountScriptHistogramWrong)

end Rows
end Go.Proofs.Qxb6601558a
