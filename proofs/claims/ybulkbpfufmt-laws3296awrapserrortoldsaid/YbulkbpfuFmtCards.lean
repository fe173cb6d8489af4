/-
  DERIVED. GIVEN WITH THE SEED: THE CARDS: each row of YbulkbpfuFmtRows.lean that lists a variable, with what it lists TIED to the program's text (the seventh form; the later family's looks); each row that meets fmt, with fmt's text TOLD by the authors' own Lean function (tested against real Go, not proved from fmt's source: count such statements apart). THE CARD IS WHAT COUNTS. Prove the row's statement (the work); the ties are given (YbulkbpfuFmtTie.lean); close each card by the builder's one call (the guide's Derived/Test/ToyasCard.lean, 'card_holds'). Laid BY PROGRAM, IN A SANDBOX (cutbox-door.mjs). By AI agents, Wed Nov 11 2026. No macro, syntax, notation, axiom, sorry.
-/
import Derived.Test.YbulkbpfuFmtRows
import GoSem.ClaimSeven
namespace Go.Proofs.YbulkbpfuFmt
namespace Rows

/-- THE TOLD AND TIED CARD OF 'beast.LawS3296ARoundTrip'. -/
def lawS3296ARoundTripCard : Claim7 := { stood := { row := lawS3296ARoundTripRow, standIns := [], harness := (true, "e8e5629c538d46953f01681fbd4ca9ae44b2a9c6a946f29be8ef0ae1fae5e39a"), looks := true }, told := true, laidByText := true, laidKinds := [.sentinel, .sentinel, .sentinel], laidTests := true, laidLooks := .later, goes := false }
def LawS3296ARoundTripToldSaid : Prop := Claim7.holds Ybaf.pinned (.plain (OpenSpec.ofChange lawS3296ARoundTripSpec)) lawS3296ARoundTripCard
/-- ITS FALSE NEIGHBOUR. Refute it at one input. -/
def LawS3296ARoundTripToldWrongFalsely : Prop := Claim7.holds Ybaf.pinned (.plain (OpenSpec.ofChange lawS3296ARoundTripWrong)) lawS3296ARoundTripCard

/-- THE TOLD AND TIED CARD OF 'beast.LawS3296AWrapsError'. -/
def lawS3296AWrapsErrorCard : Claim7 := { stood := { row := lawS3296AWrapsErrorRow, standIns := [], harness := (true, "e8e5629c538d46953f01681fbd4ca9ae44b2a9c6a946f29be8ef0ae1fae5e39a"), looks := true }, told := true, laidByText := true, laidKinds := [.sentinel, .sentinel, .sentinel], laidTests := true, laidLooks := .later, goes := false }
def LawS3296AWrapsErrorToldSaid : Prop := Claim7.holds Ybaf.pinned (.plain (OpenSpec.ofChange lawS3296AWrapsErrorSpec)) lawS3296AWrapsErrorCard
/-- ITS FALSE NEIGHBOUR. Refute it at one input. -/
def LawS3296AWrapsErrorToldWrongFalsely : Prop := Claim7.holds Ybaf.pinned (.plain (OpenSpec.ofChange lawS3296AWrapsErrorWrong)) lawS3296AWrapsErrorCard

/-- THE TOLD CARD OF 'api.LawS3296BObject'. -/
def lawS3296BObjectCard : Claim7 := { stood := { row := lawS3296BObjectRow, standIns := [], harness := (true, "e8e5629c538d46953f01681fbd4ca9ae44b2a9c6a946f29be8ef0ae1fae5e39a"), looks := true }, told := true, goes := false }
def LawS3296BObjectToldSaid : Prop := Claim7.holds Ybaf.pinned (.plain (OpenSpec.ofChange lawS3296BObjectSpec)) lawS3296BObjectCard
/-- ITS FALSE NEIGHBOUR. Refute it at one input. -/
def LawS3296BObjectToldWrongFalsely : Prop := Claim7.holds Ybaf.pinned (.plain (OpenSpec.ofChange lawS3296BObjectWrong)) lawS3296BObjectCard
end Rows
end Go.Proofs.YbulkbpfuFmt
