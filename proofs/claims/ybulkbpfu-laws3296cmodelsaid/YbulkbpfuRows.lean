/-
  No cell of these rows narrows 'for every input' (looked for: loops, veiled, ifaces, maps, wideKeys, modest, calm, conditions, laid).
  DERIVED. THE GIVEN ROWS OF THIS SEAT. 1 by the template 'for every input the law returns true; each argument reads behind the call as it read before'; 0 by the template 'total and deterministic' (their statements: YbulkbpfuTotals.lean).
  GIVEN WITH THE SEED: the statements are not yours to turn. If you find one false, say at which input.
  Laid BY PROGRAM, IN A SANDBOX (cutbox-rows.mjs): the forced cells as the released guide's own fill.sh prints them over the translation 1fc6233f88fa5d97… (all of the seat's roots in one cut). By AI agents, Wed Nov 11 2026. No macro, syntax, notation, axiom, sorry.
-/
import Derived.Test.YbulkbpfuChecked
import GoSem.Claim
import GoSem.ClaimJoined
import GoSem.ClaimMapViews
import Derived.JoinedTies
import Derived.KernelRfl
namespace Go.Proofs.Ybulkbpfu
/- THE CELL 'sum', in the pinned program and in every row, IS THE sha256 OF THE DUMP (.gsa) THAT YbulkbpfuProg.lean LOADS. Nothing in Lean hashes anything: it is a label: what it is worth is what the hold of that sum in a sandbox is worth. -/
noncomputable def Yba.pinned : Pinned := { name := "ybulkbpfu", sum := "1fc6233f88fa5d97715464db602c5ae254a1054b078b8ba509c9088950da4695", checked := Yba.checked }
namespace Rows
def none {H : Type} : Left H := { results := [], args := [] }

/-- 'stats.LawS3296CModel': WHATEVER THE INPUT: true; the input reads as it did. -/
def lawS3296CModelSpec : ChangeSpec := { name := "lawS3296CModel", fn := fun _ => fun
  | [d1, d2] => { results := [.lit (.bool true)], args := [d1, d2] }
  | _ => none }
def lawS3296CModelRow : OpenClaim := { program := "ybulkbpfu", sum := "1fc6233f88fa5d97715464db602c5ae254a1054b078b8ba509c9088950da4695", func := "example.com/squitter/squitter/stats.LawS3296CModel", spec := "lawS3296CModel", inPlace := ["math.archFloor", "math.Float64bits", "math.Float64frombits", "math.archTrunc"], apart := false }
def LawS3296CModelSaid : Prop := lawS3296CModelRow.holds Yba.pinned (OpenSpec.ofChange lawS3296CModelSpec)

/-- ITS FALSE NEIGHBOUR: 'it returns false'. Refute it at one input. -/
def lawS3296CModelWrong : ChangeSpec := { name := "lawS3296CModel", fn := fun _ => fun
  | [d1, d2] => { results := [.lit (.bool false)], args := [d1, d2] }
  | _ => none }
def LawS3296CModelWrongFalsely : Prop := lawS3296CModelRow.holds Yba.pinned (OpenSpec.ofChange lawS3296CModelWrong)

end Rows
end Go.Proofs.Ybulkbpfu
