/-
  DERIVED. GIVEN WITH THE SEED: THE CARDS: each row of Qxb6601558aDoorRows.lean that lists a variable, with what it lists TIED to the program's text (the seventh form; the later family's looks); each row that meets fmt, with fmt's text TOLD by the authors' own Lean function (tested against real Go, not proved from fmt's source: count such statements apart). THE CARD IS WHAT COUNTS. Prove the row's statement (the work); the ties are given (Qxb6601558aDoorTie.lean); close each card by the builder's one call (the guide's Derived/Test/ToyasCard.lean, 'card_holds'). Laid BY PROGRAM, IN A SANDBOX (cutbox-door.mjs). By AI agents, Wed Nov 11 2026. No macro, syntax, notation, axiom, sorry.
-/
import Derived.Test.Qxb6601558aDoorRows
import GoSem.ClaimSeven
namespace Go.Proofs.Qxb6601558aDoor
namespace Rows

/-- THE TIED CARD OF 'zzlaws_root_b1.FnGenerationRoundTrip'. -/
def fnGenerationRoundTripCard : Claim7 := { stood := { row := fnGenerationRoundTripRow, standIns := [], harness := (true, "42aed2ad7dec0334e2be745236206e6c195bc34bc48974175b62990eb77203ed"), looks := true }, kinds := [], alts := [], laidByText := true, laidKinds := [.data, .data, .data, .sentinel, .sentinel], laidTests := true, laidLooks := .later }
def FnGenerationRoundTripCardSaid : Prop := Claim7.holds Tryd.pinned (.plain (OpenSpec.ofChange fnGenerationRoundTripSpec)) fnGenerationRoundTripCard
end Rows
end Go.Proofs.Qxb6601558aDoor
