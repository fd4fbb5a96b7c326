/-
  DERIVED. GIVEN WITH THE SEED: THE CARDS: each row of YoebxwDoorRows.lean that lists a variable, with what it lists TIED to the program's text (the seventh form; the later family's looks); each row that meets fmt, with fmt's text TOLD by the authors' own Lean function (tested against real Go, not proved from fmt's source: count such statements apart). THE CARD IS WHAT COUNTS. Prove the row's statement (the work); the ties are given (YoebxwDoorTie.lean); close each card by the builder's one call (the guide's Derived/Test/ToyasCard.lean, 'card_holds'). Laid BY PROGRAM, IN A SANDBOX (cutbox-door.mjs). By AI agents, Wed Nov 11 2026. No macro, syntax, notation, axiom, sorry.
-/
import Derived.Test.YoebxwDoorRows
import GoSem.ClaimSeven
namespace Go.Proofs.YoebxwDoor
namespace Rows

/-- THE TIED CARD OF 'zzlaws_parser_b24.FnUnaryStringNestedModel'. -/
def fnUnaryStringNestedModelCard : Claim7 := { stood := { row := fnUnaryStringNestedModelRow, standIns := [], harness := (true, "82529dd3052f0ff3ea35dfb23800d71155b0a8207de64f97509f8851928cbb97"), looks := false }, kinds := [], alts := [], laidByText := true, laidKinds := [.data, .data, .data, .data], laidTests := true, laidLooks := .later }
def FnUnaryStringNestedModelCardSaid : Prop := Claim7.holds Ebxg.pinned (.plain (OpenSpec.ofChange fnUnaryStringNestedModelSpec)) fnUnaryStringNestedModelCard
end Rows
end Go.Proofs.YoebxwDoor
