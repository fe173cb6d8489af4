/-
  No cell of these rows narrows 'for every input' (looked for: loops, veiled, ifaces, maps, wideKeys, modest, calm, conditions, laid).
  DERIVED. THE GIVEN ROWS OF THIS SEAT. 2 by the template 'for every input the law returns true; each argument reads behind the call as it read before'; 0 by the template 'total and deterministic' (their statements: YbulkbpgiTotals.lean).
  GIVEN WITH THE SEED: the statements are not yours to turn. If you find one false, say at which input.
  Laid BY PROGRAM, IN A SANDBOX (cutbox-rows.mjs): the forced cells as the released guide's own fill.sh prints them over the translation ce82beb1b4b2feee… (all of the seat's roots in one cut). By AI agents, Wed Nov 11 2026. No macro, syntax, notation, axiom, sorry.
-/
import Derived.Test.YbulkbpgiChecked
import GoSem.Claim
import GoSem.ClaimJoined
import GoSem.ClaimMapViews
import Derived.JoinedTies
import Derived.KernelRfl
namespace Go.Proofs.Ybulkbpgi
/- THE CELL 'sum', in the pinned program and in every row, IS THE sha256 OF THE DUMP (.gsa) THAT YbulkbpgiProg.lean LOADS. Nothing in Lean hashes anything: it is a label: what it is worth is what the hold of that sum in a sandbox is worth. -/
noncomputable def Yba.pinned : Pinned := { name := "ybulkbpgi", sum := "ce82beb1b4b2feee03f2b6f7ee00628d395c477a314ac22f2f2d1cf029841826", checked := Yba.checked }
namespace Rows
def none {H : Type} : Left H := { results := [], args := [] }

/-- 'resp.LawS3297AModel': WHATEVER THE INPUT: true; the input reads as it did. -/
def lawS3297AModelSpec : ChangeSpec := { name := "lawS3297AModel", fn := fun _ => fun
  | [d] => { results := [.lit (.bool true)], args := [d] }
  | _ => none }
def lawS3297AModelRow : OpenClaim := { program := "ybulkbpgi", sum := "ce82beb1b4b2feee03f2b6f7ee00628d395c477a314ac22f2f2d1cf029841826", func := "example.com/covenant/covenant/pkg/resp.LawS3297AModel", spec := "lawS3297AModel", apart := false }
def LawS3297AModelSaid : Prop := lawS3297AModelRow.holds Yba.pinned (OpenSpec.ofChange lawS3297AModelSpec)

/-- ITS FALSE NEIGHBOUR: 'it returns false'. Refute it at one input. -/
def lawS3297AModelWrong : ChangeSpec := { name := "lawS3297AModel", fn := fun _ => fun
  | [d] => { results := [.lit (.bool false)], args := [d] }
  | _ => none }
def LawS3297AModelWrongFalsely : Prop := lawS3297AModelRow.holds Yba.pinned (OpenSpec.ofChange lawS3297AModelWrong)

/-- 'resp.LawS3297ADigits': WHATEVER THE INPUT: true; the input reads as it did. -/
def lawS3297ADigitsSpec : ChangeSpec := { name := "lawS3297ADigits", fn := fun _ => fun
  | [d1, d2, d3] => { results := [.lit (.bool true)], args := [d1, d2, d3] }
  | _ => none }
def lawS3297ADigitsRow : OpenClaim := { program := "ybulkbpgi", sum := "ce82beb1b4b2feee03f2b6f7ee00628d395c477a314ac22f2f2d1cf029841826", func := "example.com/covenant/covenant/pkg/resp.LawS3297ADigits", spec := "lawS3297ADigits", apart := false }
def LawS3297ADigitsSaid : Prop := lawS3297ADigitsRow.holds Yba.pinned (OpenSpec.ofChange lawS3297ADigitsSpec)

/-- ITS FALSE NEIGHBOUR: 'it returns false'. Refute it at one input. -/
def lawS3297ADigitsWrong : ChangeSpec := { name := "lawS3297ADigits", fn := fun _ => fun
  | [d1, d2, d3] => { results := [.lit (.bool false)], args := [d1, d2, d3] }
  | _ => none }
def LawS3297ADigitsWrongFalsely : Prop := lawS3297ADigitsRow.holds Yba.pinned (OpenSpec.ofChange lawS3297ADigitsWrong)

end Rows
end Go.Proofs.Ybulkbpgi
