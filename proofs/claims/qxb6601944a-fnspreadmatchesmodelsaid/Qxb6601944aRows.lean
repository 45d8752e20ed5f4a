/-
  No cell of these rows narrows 'for every input' (looked for: loops, veiled, ifaces, maps, wideKeys, modest, calm, conditions, laid).
  DERIVED. THE GIVEN ROWS OF THIS SEAT. 5 by the template 'for every input the law returns true; each argument reads behind the call as it read before'; 0 by the template 'total and deterministic' (their statements: Qxb6601944aTotals.lean).
  GIVEN WITH THE SEED: the statements are not yours to turn. If you find one false, say at which input.
  Laid BY PROGRAM, IN A SANDBOX (cutbox-rows.mjs): the forced cells as the released guide's own fill.sh prints them over the translation 52c4a4de447608df… (all of the seat's roots in one cut). By AI agents, Wed Nov 11 2026. No macro, syntax, notation, axiom, sorry.
-/
import Derived.Test.Qxb6601944aChecked
import GoSem.Claim
import GoSem.ClaimJoined
import GoSem.ClaimMapViews
import Derived.JoinedTies
import Derived.KernelRfl
namespace Go.Proofs.Qxb6601944a
/- THE CELL 'sum', in the pinned program and in every row, IS THE sha256 OF THE DUMP (.gsa) THAT Qxb6601944aProg.lean LOADS. Nothing in Lean hashes anything: it is a label: what it is worth is what the hold of that sum in a sandbox is worth. -/
noncomputable def Try.pinned : Pinned := { name := "qxb6601944a", sum := "52c4a4de447608df85476921d3089f510bf2de406d95dd45b3382e495493f01b", checked := Try.checked }
namespace Rows
def none {H : Type} : Left H := { results := [], args := [] }

/-- 'zzlaws_internal_alloc_b1.FnPickMatchesModel': WHATEVER THE INPUT: true; the input reads as it did. -/
def fnPickMatchesModelSpec : ChangeSpec := { name := "fnPickMatchesModel", fn := fun _ => fun
  | [d1, d2, d3] => { results := [.lit (.bool true)], args := [d1, d2, d3] }
  | _ => none }
def fnPickMatchesModelRow : OpenClaim := { program := "qxb6601944a", sum := "52c4a4de447608df85476921d3089f510bf2de406d95dd45b3382e495493f01b", func := "example.com/corral/corral/zzlaws_internal_alloc_b1.FnPickMatchesModel", spec := "fnPickMatchesModel", apart := false }
def FnPickMatchesModelSaid : Prop := fnPickMatchesModelRow.holds Try.pinned (OpenSpec.ofChange fnPickMatchesModelSpec)

/-- ITS FALSE NEIGHBOUR: 'it returns false'. Refute it at one input. -/
def fnPickMatchesModelWrong : ChangeSpec := { name := "fnPickMatchesModel", fn := fun _ => fun
  | [d1, d2, d3] => { results := [.lit (.bool false)], args := [d1, d2, d3] }
  | _ => none }
def FnPickMatchesModelWrongFalsely : Prop := fnPickMatchesModelRow.holds Try.pinned (OpenSpec.ofChange fnPickMatchesModelWrong)

/-- 'zzlaws_internal_alloc_b1.FnPickAcrossIslandsOnlyWidens': WHATEVER THE INPUT: true; the input reads as it did. -/
def fnPickAcrossIslandsOnlyWidensSpec : ChangeSpec := { name := "fnPickAcrossIslandsOnlyWidens", fn := fun _ => fun
  | [d1, d2] => { results := [.lit (.bool true)], args := [d1, d2] }
  | _ => none }
def fnPickAcrossIslandsOnlyWidensRow : OpenClaim := { program := "qxb6601944a", sum := "52c4a4de447608df85476921d3089f510bf2de406d95dd45b3382e495493f01b", func := "example.com/corral/corral/zzlaws_internal_alloc_b1.FnPickAcrossIslandsOnlyWidens", spec := "fnPickAcrossIslandsOnlyWidens", apart := false }
def FnPickAcrossIslandsOnlyWidensSaid : Prop := fnPickAcrossIslandsOnlyWidensRow.holds Try.pinned (OpenSpec.ofChange fnPickAcrossIslandsOnlyWidensSpec)

/-- ITS FALSE NEIGHBOUR: 'it returns false'. Refute it at one input. -/
def fnPickAcrossIslandsOnlyWidensWrong : ChangeSpec := { name := "fnPickAcrossIslandsOnlyWidens", fn := fun _ => fun
  | [d1, d2] => { results := [.lit (.bool false)], args := [d1, d2] }
  | _ => none }
def FnPickAcrossIslandsOnlyWidensWrongFalsely : Prop := fnPickAcrossIslandsOnlyWidensRow.holds Try.pinned (OpenSpec.ofChange fnPickAcrossIslandsOnlyWidensWrong)

/-- 'zzlaws_internal_alloc_b1.FnPickGrantsOnlyWhatFits': WHATEVER THE INPUT: true; the input reads as it did. -/
def fnPickGrantsOnlyWhatFitsSpec : ChangeSpec := { name := "fnPickGrantsOnlyWhatFits", fn := fun _ => fun
  | [d1, d2, d3] => { results := [.lit (.bool true)], args := [d1, d2, d3] }
  | _ => none }
def fnPickGrantsOnlyWhatFitsRow : OpenClaim := { program := "qxb6601944a", sum := "52c4a4de447608df85476921d3089f510bf2de406d95dd45b3382e495493f01b", func := "example.com/corral/corral/zzlaws_internal_alloc_b1.FnPickGrantsOnlyWhatFits", spec := "fnPickGrantsOnlyWhatFits", apart := false }
def FnPickGrantsOnlyWhatFitsSaid : Prop := fnPickGrantsOnlyWhatFitsRow.holds Try.pinned (OpenSpec.ofChange fnPickGrantsOnlyWhatFitsSpec)

/-- ITS FALSE NEIGHBOUR: 'it returns false'. Refute it at one input. -/
def fnPickGrantsOnlyWhatFitsWrong : ChangeSpec := { name := "fnPickGrantsOnlyWhatFits", fn := fun _ => fun
  | [d1, d2, d3] => { results := [.lit (.bool false)], args := [d1, d2, d3] }
  | _ => none }
def FnPickGrantsOnlyWhatFitsWrongFalsely : Prop := fnPickGrantsOnlyWhatFitsRow.holds Try.pinned (OpenSpec.ofChange fnPickGrantsOnlyWhatFitsWrong)

/-- 'zzlaws_internal_alloc_b1.FnSpreadMatchesModel': WHATEVER THE INPUT: true; the input reads as it did. -/
def fnSpreadMatchesModelSpec : ChangeSpec := { name := "fnSpreadMatchesModel", fn := fun _ => fun
  | [d1, d2] => { results := [.lit (.bool true)], args := [d1, d2] }
  | _ => none }
def fnSpreadMatchesModelRow : OpenClaim := { program := "qxb6601944a", sum := "52c4a4de447608df85476921d3089f510bf2de406d95dd45b3382e495493f01b", func := "example.com/corral/corral/zzlaws_internal_alloc_b1.FnSpreadMatchesModel", spec := "fnSpreadMatchesModel", apart := false }
def FnSpreadMatchesModelSaid : Prop := fnSpreadMatchesModelRow.holds Try.pinned (OpenSpec.ofChange fnSpreadMatchesModelSpec)

/-- ITS FALSE NEIGHBOUR: 'it returns false'. Refute it at one input. -/
def fnSpreadMatchesModelWrong : ChangeSpec := { name := "fnSpreadMatchesModel", fn := fun _ => fun
  | [d1, d2] => { results := [.lit (.bool false)], args := [d1, d2] }
  | _ => none }
def FnSpreadMatchesModelWrongFalsely : Prop := fnSpreadMatchesModelRow.holds Try.pinned (OpenSpec.ofChange fnSpreadMatchesModelWrong)

/-- 'zzlaws_internal_alloc_b1.FnSpreadTouchesFewestIslands': WHATEVER THE INPUT: true; the input reads as it did. -/
def fnSpreadTouchesFewestIslandsSpec : ChangeSpec := { name := "fnSpreadTouchesFewestIslands", fn := fun _ => fun
  | [d1, d2] => { results := [.lit (.bool true)], args := [d1, d2] }
  | _ => none }
def fnSpreadTouchesFewestIslandsRow : OpenClaim := { program := "qxb6601944a", sum := "52c4a4de447608df85476921d3089f510bf2de406d95dd45b3382e495493f01b", func := "example.com/corral/corral/zzlaws_internal_alloc_b1.FnSpreadTouchesFewestIslands", spec := "fnSpreadTouchesFewestIslands", apart := false }
def FnSpreadTouchesFewestIslandsSaid : Prop := fnSpreadTouchesFewestIslandsRow.holds Try.pinned (OpenSpec.ofChange fnSpreadTouchesFewestIslandsSpec)

/-- ITS FALSE NEIGHBOUR: 'it returns false'. Refute it at one input. -/
def fnSpreadTouchesFewestIslandsWrong : ChangeSpec := { name := "fnSpreadTouchesFewestIslands", fn := fun _ => fun
  | [d1, d2] => { results := [.lit (.bool false)], args := [d1, d2] }
  | _ => none }
def FnSpreadTouchesFewestIslandsWrongFalsely : Prop := fnSpreadTouchesFewestIslandsRow.holds Try.pinned (OpenSpec.ofChange fnSpreadTouchesFewestIslandsWrong)

end Rows
end Go.Proofs.Qxb6601944a
