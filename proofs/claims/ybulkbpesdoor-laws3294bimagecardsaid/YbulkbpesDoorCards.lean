/-
  DERIVED. GIVEN WITH THE SEED: THE CARDS: each row of YbulkbpesDoorRows.lean that lists a variable, with what it lists TIED to the program's text (the seventh form; the later family's looks); each row that meets fmt, with fmt's text TOLD by the authors' own Lean function (tested against real Go, not proved from fmt's source: count such statements apart). THE CARD IS WHAT COUNTS. Prove the row's statement (the work); the ties are given (YbulkbpesDoorTie.lean); close each card by the builder's one call (the guide's Derived/Test/ToyasCard.lean, 'card_holds'). Laid BY PROGRAM, IN A SANDBOX (cutbox-door.mjs). By AI agents, Wed Nov 11 2026. No macro, syntax, notation, axiom, sorry.
-/
import Derived.Test.YbulkbpesDoorRows
import GoSem.ClaimSeven
namespace Go.Proofs.YbulkbpesDoor
namespace Rows

/-- THE TIED CARD OF 'causalcut.LawS3294BExact'. -/
def lawS3294BExactCard : Claim7 := { stood := { row := lawS3294BExactRow, standIns := [], harness := (true, "b5dc18f43a63baa1b33ff8df1bb0e944db69b1b81650ca50f9d41cbc01d97fdc"), looks := false }, kinds := [], alts := [], laidByText := true, laidKinds := [.data], laidTests := true, laidLooks := .later }
def LawS3294BExactCardSaid : Prop := Claim7.holds Ybad.pinned (.plain (OpenSpec.ofChange lawS3294BExactSpec)) lawS3294BExactCard

/-- THE TIED CARD OF 'causalcut.LawS3294BImage'. -/
def lawS3294BImageCard : Claim7 := { stood := { row := lawS3294BImageRow, standIns := [], harness := (true, "b5dc18f43a63baa1b33ff8df1bb0e944db69b1b81650ca50f9d41cbc01d97fdc"), looks := false }, kinds := [], alts := [], laidByText := true, laidKinds := [.data], laidTests := true, laidLooks := .later }
def LawS3294BImageCardSaid : Prop := Claim7.holds Ybad.pinned (.plain (OpenSpec.ofChange lawS3294BImageSpec)) lawS3294BImageCard
end Rows
end Go.Proofs.YbulkbpesDoor
