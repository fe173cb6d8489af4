/-
  No cell of these rows narrows 'for every input' (looked for: loops, veiled, ifaces, maps, wideKeys, modest, calm, conditions, laid).
  DERIVED. THE GIVEN ROWS OF THIS SEAT. 2 by the template 'for every input the law returns true; each argument reads behind the call as it read before'; 0 by the template 'total and deterministic' (their statements: YbulkbpesTotals.lean).
  GIVEN WITH THE SEED: the statements are not yours to turn. If you find one false, say at which input.
  Laid BY PROGRAM, IN A SANDBOX (cutbox-rows.mjs): the forced cells as the released guide's own fill.sh prints them over the translation 2b45223a966a78a6… (all of the seat's roots in one cut). By AI agents, Wed Nov 11 2026. No macro, syntax, notation, axiom, sorry.
-/
import Derived.Test.YbulkbpesChecked
import GoSem.Claim
import GoSem.ClaimJoined
import GoSem.ClaimMapViews
import Derived.JoinedTies
import Derived.KernelRfl
namespace Go.Proofs.Ybulkbpes
/- THE CELL 'sum', in the pinned program and in every row, IS THE sha256 OF THE DUMP (.gsa) THAT YbulkbpesProg.lean LOADS. Nothing in Lean hashes anything: it is a label: what it is worth is what the hold of that sum in a sandbox is worth. -/
noncomputable def Yba.pinned : Pinned := { name := "ybulkbpes", sum := "2b45223a966a78a6eea423d88348d00a205ba5707ebe94bc266c8b045b1e2f56", checked := Yba.checked }
namespace Rows
def none {H : Type} : Left H := { results := [], args := [] }

/-- 'causalcut.LawS3294CModel': WHATEVER THE INPUT: true; the input reads as it did. -/
def lawS3294CModelSpec : ChangeSpec := { name := "lawS3294CModel", fn := fun _ => fun
  | [d1, d2, d3] => { results := [.lit (.bool true)], args := [d1, d2, d3] }
  | _ => none }
def lawS3294CModelRow : OpenClaim := { program := "ybulkbpes", sum := "2b45223a966a78a6eea423d88348d00a205ba5707ebe94bc266c8b045b1e2f56", func := "example.com/causalcut/causalcut.LawS3294CModel", spec := "lawS3294CModel", apart := false }
def LawS3294CModelSaid : Prop := lawS3294CModelRow.holds Yba.pinned (OpenSpec.ofChange lawS3294CModelSpec)

/-- ITS FALSE NEIGHBOUR: 'it returns false'. Refute it at one input. -/
def lawS3294CModelWrong : ChangeSpec := { name := "lawS3294CModel", fn := fun _ => fun
  | [d1, d2, d3] => { results := [.lit (.bool false)], args := [d1, d2, d3] }
  | _ => none }
def LawS3294CModelWrongFalsely : Prop := lawS3294CModelRow.holds Yba.pinned (OpenSpec.ofChange lawS3294CModelWrong)

/-- 'causalcut.LawS3294CScript': WHATEVER THE INPUT: true; the input reads as it did. -/
def lawS3294CScriptSpec : ChangeSpec := { name := "lawS3294CScript", fn := fun _ => fun
  | [d1, d2, d3, d4, d5] => { results := [.lit (.bool true)], args := [d1, d2, d3, d4, d5] }
  | _ => none }
def lawS3294CScriptRow : OpenClaim := { program := "ybulkbpes", sum := "2b45223a966a78a6eea423d88348d00a205ba5707ebe94bc266c8b045b1e2f56", func := "example.com/causalcut/causalcut.LawS3294CScript", spec := "lawS3294CScript", apart := false }
def LawS3294CScriptSaid : Prop := lawS3294CScriptRow.holds Yba.pinned (OpenSpec.ofChange lawS3294CScriptSpec)

/-- ITS FALSE NEIGHBOUR: 'it returns false'. Refute it at one input. -/
def lawS3294CScriptWrong : ChangeSpec := { name := "lawS3294CScript", fn := fun _ => fun
  | [d1, d2, d3, d4, d5] => { results := [.lit (.bool false)], args := [d1, d2, d3, d4, d5] }
  | _ => none }
def LawS3294CScriptWrongFalsely : Prop := lawS3294CScriptRow.holds Yba.pinned (OpenSpec.ofChange lawS3294CScriptWrong)

end Rows
end Go.Proofs.Ybulkbpes
