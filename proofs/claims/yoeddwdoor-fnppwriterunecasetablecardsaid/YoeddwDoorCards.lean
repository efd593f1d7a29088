/-
  DERIVED. GIVEN WITH THE SEED: THE CARDS: each row of YoeddwDoorRows.lean that lists a variable, with what it lists TIED to the program's text (the seventh form; the later family's looks); each row that meets fmt, with fmt's text TOLD by the authors' own Lean function (tested against real Go, not proved from fmt's source: count such statements apart). THE CARD IS WHAT COUNTS. Prove the row's statement (the work); the ties are given (YoeddwDoorTie.lean); close each card by the builder's one call (the guide's Derived/Test/ToyasCard.lean, 'card_holds'). Laid BY PROGRAM, IN A SANDBOX (cutbox-door.mjs). By AI agents, Wed Nov 11 2026. No macro, syntax, notation, axiom, sorry.
-/
import Derived.Test.YoeddwDoorRows
import GoSem.ClaimSeven
namespace Go.Proofs.YoeddwDoor
namespace Rows

/-- THE TIED CARD OF 'zzlaws_root_b2.FnPPWriteRuneCaseTable'. -/
def fnPPWriteRuneCaseTableCard : Claim7 := { stood := { row := fnPPWriteRuneCaseTableRow, standIns := [], harness := (true, "8d0b66b18062d61b33f41f5433acc0cddbc9fa5790caff56573a04ac412f0e74"), looks := false }, kinds := [], alts := [], laidByText := true, laidKinds := [.called, .data], laidTests := true, laidLooks := .later }
def FnPPWriteRuneCaseTableCardSaid : Prop := Claim7.holds Eddg.pinned (.plain (OpenSpec.ofChange fnPPWriteRuneCaseTableSpec)) fnPPWriteRuneCaseTableCard
end Rows
end Go.Proofs.YoeddwDoor
