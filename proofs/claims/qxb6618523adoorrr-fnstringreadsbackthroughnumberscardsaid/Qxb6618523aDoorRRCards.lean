/-
  DERIVED. GIVEN WITH THE SEED: THE CARDS: each row of Qxb6618523aDoorRRRows.lean that lists a variable, with what it lists TIED to the program's text (the seventh form; the later family's looks); each row that meets fmt, with fmt's text TOLD by the authors' own Lean function (tested against real Go, not proved from fmt's source: count such statements apart). THE CARD IS WHAT COUNTS. Prove the row's statement (the work); the ties are given (Qxb6618523aDoorRRTie.lean); close each card by the builder's one call (the guide's Derived/Test/ToyasCard.lean, 'card_holds'). Laid BY PROGRAM, IN A SANDBOX (cutbox-door.mjs). By AI agents, Wed Nov 11 2026. No macro, syntax, notation, axiom, sorry.
-/
import Derived.Test.Qxb6618523aDoorRRRows
import GoSem.ClaimSeven
namespace Go.Proofs.Qxb6618523aDoorRR
namespace Rows

/-- THE TIED CARD OF 'zzlaws_internal_tree_b1.FnStringReadsBackThroughNumbers'. -/
def fnStringReadsBackThroughNumbersCard : Claim7 := { stood := { row := fnStringReadsBackThroughNumbersRow, standIns := [], harness := (true, "fd0880c6c636a25d8d09ea5afad5acd2060780b01864d87d47c9b7f545b218c9"), looks := true }, kinds := [], alts := [], laidByText := true, laidKinds := [.sentinel, .sentinel, .sentinel, .sentinel, .data], laidTests := true, laidLooks := .later }
def FnStringReadsBackThroughNumbersCardSaid : Prop := Claim7.holds Tryd.pinned (.plain (OpenSpec.ofChange fnStringReadsBackThroughNumbersSpec)) fnStringReadsBackThroughNumbersCard
end Rows
end Go.Proofs.Qxb6618523aDoorRR
