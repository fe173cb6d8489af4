/-
  NARROWER THAN 'FOR EVERY INPUT', by the rows' own cells (each row's printed sentence says how): LawS3296ARoundTrip: laid · LawS3296AWrapsError: laid.
  DERIVED. THE GIVEN ROWS OF THIS SEAT. 3 by the template 'for every input the law returns true; each argument reads behind the call as it read before'; 0 by the template 'total and deterministic' (their statements: YbulkbpfuFmtTotals.lean).
  GIVEN WITH THE SEED: the statements are not yours to turn. If you find one false, say at which input.
  Laid BY PROGRAM, IN A SANDBOX (cutbox-rows.mjs): the forced cells as the released guide's own fill.sh prints them over the translation 4208ccf02aceb15b… (all of the seat's roots in one cut). By AI agents, Wed Nov 11 2026. No macro, syntax, notation, axiom, sorry.
-/
import Derived.Test.YbulkbpfuFmtChecked
import GoSem.Claim
import GoSem.ClaimJoined
import GoSem.ClaimMapViews
import Derived.JoinedTies
import Derived.KernelRfl
namespace Go.Proofs.YbulkbpfuFmt
/- THE CELL 'sum', in the pinned program and in every row, IS THE sha256 OF THE DUMP (.gsa) THAT YbulkbpfuFmtProg.lean LOADS. Nothing in Lean hashes anything: it is a label: what it is worth is what the hold of that sum in a sandbox is worth. -/
noncomputable def Ybaf.pinned : Pinned := { name := "ybulkbpfufmt", sum := "4208ccf02aceb15b3dfc74a4e4d476ffd277211d406e64f11df1e09718e413cb", checked := Ybaf.checked }
namespace Rows
def none {H : Type} : Left H := { results := [], args := [] }

/- WHAT THE LISTED PACKAGE-LEVEL VARIABLES READ AS WHEN THE CALL BEGINS. Each datum BY PROGRAM (the guide's laid-datum.mjs) off the statement by which the dump's own 'gosem.cut.vars' lays the variable. In a bare row this is a premise. The card (YbulkbpfuFmtCards.lean) ties it to the program's text. -/
def laid_io_EOF {H : Type} : DataW H := .iface "*errors.errorString" (.ptr (.agg [.lit (.string [69, 79, 70])]))
def laid_io_ErrNoProgress {H : Type} : DataW H := .iface "*errors.errorString" (.ptr (.agg [.lit (.string [109, 117, 108, 116, 105, 112, 108, 101, 32, 82, 101, 97, 100, 32, 99, 97, 108, 108, 115, 32, 114, 101, 116, 117, 114, 110, 32, 110, 111, 32, 100, 97, 116, 97, 32, 111, 114, 32, 101, 114, 114, 111, 114])]))
def laid_bufio_errNegativeRead {H : Type} : DataW H := .iface "*errors.errorString" (.ptr (.agg [.lit (.string [98, 117, 102, 105, 111, 58, 32, 114, 101, 97, 100, 101, 114, 32, 114, 101, 116, 117, 114, 110, 101, 100, 32, 110, 101, 103, 97, 116, 105, 118, 101, 32, 99, 111, 117, 110, 116, 32, 102, 114, 111, 109, 32, 82, 101, 97, 100])]))

/-- 'beast.LawS3296ARoundTrip': WHATEVER THE INPUT: true; the input reads as it did. -/
def lawS3296ARoundTripSpec : ChangeSpec := { name := "lawS3296ARoundTrip", fn := fun _ => fun
  | [d1, d2, d3, d4] => { results := [.lit (.bool true)], args := [d1, d2, d3, d4] }
  | _ => none }
def lawS3296ARoundTripRow : OpenClaim := { program := "ybulkbpfufmt", sum := "4208ccf02aceb15b3dfc74a4e4d476ffd277211d406e64f11df1e09718e413cb", func := "example.com/squitter/squitter/beast.LawS3296ARoundTrip", spec := "lawS3296ARoundTrip", stops := ["fmt.Sprintf", "fmt.errorf"], inPlace := ["fmt.errorf"], unfollowed := true, recurses := true, named := ["io.EOF", "bufio.errNegativeRead", "io.ErrNoProgress"], apart := false, laid := [("io.EOF", laid_io_EOF), ("io.ErrNoProgress", laid_io_ErrNoProgress), ("bufio.errNegativeRead", laid_bufio_errNegativeRead)] }
/-- NO THEOREM (fmt's text is open here; it may be false): for the released tool's asking of the row's closed facts alone. THE STATEMENT IS 'LawS3296ARoundTripToldSaid' (YbulkbpfuFmtCards.lean). -/
def LawS3296ARoundTripFormAsk : Prop := lawS3296ARoundTripRow.holds Ybaf.pinned (OpenSpec.ofChange lawS3296ARoundTripSpec)

/-- ITS FALSE NEIGHBOUR: 'it returns false'. Refute it at one input. -/
def lawS3296ARoundTripWrong : ChangeSpec := { name := "lawS3296ARoundTrip", fn := fun _ => fun
  | [d1, d2, d3, d4] => { results := [.lit (.bool false)], args := [d1, d2, d3, d4] }
  | _ => none }
def LawS3296ARoundTripWrongFormAsk : Prop := lawS3296ARoundTripRow.holds Ybaf.pinned (OpenSpec.ofChange lawS3296ARoundTripWrong)

/-- 'beast.LawS3296AWrapsError': WHATEVER THE INPUT: true; the input reads as it did. -/
def lawS3296AWrapsErrorSpec : ChangeSpec := { name := "lawS3296AWrapsError", fn := fun _ => fun
  | [d] => { results := [.lit (.bool true)], args := [d] }
  | _ => none }
def lawS3296AWrapsErrorRow : OpenClaim := { program := "ybulkbpfufmt", sum := "4208ccf02aceb15b3dfc74a4e4d476ffd277211d406e64f11df1e09718e413cb", func := "example.com/squitter/squitter/beast.LawS3296AWrapsError", spec := "lawS3296AWrapsError", stops := ["fmt.Sprintf", "fmt.errorf"], inPlace := ["fmt.errorf", "internal/reflectlite.TypeOf"], unfollowed := true, recurses := true, named := ["io.EOF", "bufio.errNegativeRead", "io.ErrNoProgress"], apart := false, laid := [("io.EOF", laid_io_EOF), ("io.ErrNoProgress", laid_io_ErrNoProgress), ("bufio.errNegativeRead", laid_bufio_errNegativeRead)] }
/-- NO THEOREM (fmt's text is open here; it may be false): for the released tool's asking of the row's closed facts alone. THE STATEMENT IS 'LawS3296AWrapsErrorToldSaid' (YbulkbpfuFmtCards.lean). -/
def LawS3296AWrapsErrorFormAsk : Prop := lawS3296AWrapsErrorRow.holds Ybaf.pinned (OpenSpec.ofChange lawS3296AWrapsErrorSpec)

/-- ITS FALSE NEIGHBOUR: 'it returns false'. Refute it at one input. -/
def lawS3296AWrapsErrorWrong : ChangeSpec := { name := "lawS3296AWrapsError", fn := fun _ => fun
  | [d] => { results := [.lit (.bool false)], args := [d] }
  | _ => none }
def LawS3296AWrapsErrorWrongFormAsk : Prop := lawS3296AWrapsErrorRow.holds Ybaf.pinned (OpenSpec.ofChange lawS3296AWrapsErrorWrong)

/-- 'api.LawS3296BObject': WHATEVER THE INPUT: true; the input reads as it did. -/
def lawS3296BObjectSpec : ChangeSpec := { name := "lawS3296BObject", fn := fun _ => fun
  | [d1, d2, d3, d4, d5, d6, d7, d8] => { results := [.lit (.bool true)], args := [d1, d2, d3, d4, d5, d6, d7, d8] }
  | _ => none }
def lawS3296BObjectRow : OpenClaim := { program := "ybulkbpfufmt", sum := "4208ccf02aceb15b3dfc74a4e4d476ffd277211d406e64f11df1e09718e413cb", func := "example.com/squitter/squitter/api.LawS3296BObject", spec := "lawS3296BObject", stops := ["fmt.Sprintf", "fmt.errorf"], inPlace := ["fmt.Sprintf", "math.Float64bits", "math.Float64frombits"], apart := false }
/-- NO THEOREM (fmt's text is open here; it may be false): for the released tool's asking of the row's closed facts alone. THE STATEMENT IS 'LawS3296BObjectToldSaid' (YbulkbpfuFmtCards.lean). -/
def LawS3296BObjectFormAsk : Prop := lawS3296BObjectRow.holds Ybaf.pinned (OpenSpec.ofChange lawS3296BObjectSpec)

/-- ITS FALSE NEIGHBOUR: 'it returns false'. Refute it at one input. -/
def lawS3296BObjectWrong : ChangeSpec := { name := "lawS3296BObject", fn := fun _ => fun
  | [d1, d2, d3, d4, d5, d6, d7, d8] => { results := [.lit (.bool false)], args := [d1, d2, d3, d4, d5, d6, d7, d8] }
  | _ => none }
def LawS3296BObjectWrongFormAsk : Prop := lawS3296BObjectRow.holds Ybaf.pinned (OpenSpec.ofChange lawS3296BObjectWrong)

end Rows
end Go.Proofs.YbulkbpfuFmt
