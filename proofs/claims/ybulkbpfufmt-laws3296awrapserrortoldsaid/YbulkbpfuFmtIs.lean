/-
  fmt.Errorf's wrap of an error, and errors.Is at it, by contracts: the guide's worked Sentry texts turned to this program.
-/
import Derived.Test.YbulkbpfuFmtOpen
import Derived.Stop.Asserts
import Derived.RowKitTokens
import Derived.Stop.CallBack
import Derived.Stop.IfaceNil
import GoSem.ClaimData
namespace Go.Proofs.YbulkbpfuFmt
open Go.RowKit Go.Extern.Stop Go.Stop Go.Extern
set_option linter.unusedVariables false

theorem call20 (v : Value) (w : World) : (callFunc 20 #[.iface 88 v]).run Ybaf.prog w = .ok (.value (.iface 108 (.agg #[.pointer (some ⟨4, 88, none⟩)]))) w := by kernel_rfl
theorem call75 (w : World) : (callFunc 75 #[.agg #[.pointer (some ⟨4, 88, none⟩)]]).run Ybaf.prog w = .ok (.value (.bool true)) w := by kernel_rfl
theorem isMethodComparable (v : Value) (w : World) : (Go.method 268 108 v "Comparable").run Ybaf.prog w = .ok (75, v) w := by kernel_rfl
theorem isComp : (Ybaf.prog.info? 88).map (·.comparable) = some true := by kernel_rfl
theorem isSize : (Ybaf.prog.info? 90).map (·.size) = some 1 := by kernel_rfl
theorem noIsE (v : Value) (xT : TypeId) (w : World) : (Instr.typeAssert (.iface 88 v) xT 110 true).run Ybaf.prog w = .ok (.tuple #[.nilIface, .bool false]) w := run_typeAssert_lacksB Ybaf.underlying110 (by kernel_rfl) (by kernel_rfl) v xT w
theorem noIsW (v : Value) (xT : TypeId) (w : World) : (Instr.typeAssert (.iface 123 v) xT 110 true).run Ybaf.prog w = .ok (.tuple #[.nilIface, .bool false]) w := run_typeAssert_lacksB Ybaf.underlying110 (by kernel_rfl) (by kernel_rfl) v xT w
theorem hasUnwrapW (v : Value) (xT : TypeId) (w : World) : (Instr.typeAssert (.iface 123 v) xT 113 true).run Ybaf.prog w = .ok (.tuple #[.iface 123 v, .bool true]) w := run_typeAssert_hasB Ybaf.underlying113 (by kernel_rfl) v xT w
theorem methodUnwrap (v : Value) (w : World) : (Go.method 268 123 v "Unwrap").run Ybaf.prog w = .ok (85, v) w := by kernel_rfl

set_option maxRecDepth 100000 in
set_option maxHeartbeats 4000000 in
/-- errors.Is(e, x), e a *fmt.wrapError that wraps x itself: one Unwrap, then equal. -/
theorem is_wrap_same (pb po : Nat) (b : Addr) (w : World) (h1 : w.cell? ⟨pb, po + 1, none⟩ = some (.iface 88 (.pointer (some b)))) :
    Calls Ybaf.prog 12 #[.iface 123 (.pointer (some ⟨pb, po, none⟩)), .iface 88 (.pointer (some b))] w fun e w' => e = .returned (.bool true) ∧ w' = w := by
  obtain ⟨i, hi, hcmp⟩ := Option.map_eq_some_iff.1 isComp
  obtain ⟨j, hj, hjs⟩ := Option.map_eq_some_iff.1 isSize
  have h20 := call20
  have h75 := call75
  have mR := isMethodComparable
  have nE := noIsE
  have nW := noIsW
  have uW := hasUnwrapW
  have mU := methodUnwrap
  have heq := run_eql_iface_ptr_same (P := Ybaf.prog) w b Ybaf.underlying36 Ybaf.underlying88 hi hcmp hj
  have hty := run_eql_iface_types (P := Ybaf.prog) 123 88 (.pointer (some ⟨pb, po, none⟩)) (.pointer (some b)) Ybaf.underlying36 (by decide) w
  go_enter Ybaf.func12, Ybaf.ntmps12
  go_wp2
  refine wp_loop_rounds 2 ?_
  rw [rounds_succ]
  go_wp2
  rw [rounds_succ]
  go_wp2
  go_ret
  exact ⟨rfl, rfl⟩

/-! ### fmt.Errorf("reading the Beast stream: %w", err) -/
theorem call39 (args : Array Value) (w : World) : (callFunc 39 args).run Ybaf.prog w = ((FmtStop.errorf #[9, 122] #[36] args).run Ybaf.prog w).andThen fun v w' => .ok (.value v) w' :=
  run_callFunc_extern Ybaf.func39 (by kernel_rfl) (by kernel_rfl) (by kernel_rfl) (by kernel_rfl) args w
theorem fguard (name : String) (w : World) : (FmtStop.guard name).run Ybaf.prog w = .ok () w := by kernel_rfl
theorem fmt0 : FmtStop.printed? ⟨#[114, 101, 97, 100, 105, 110, 103, 32, 116, 104, 101, 32, 66, 101, 97, 115, 116, 32, 115, 116, 114, 101, 97, 109, 58, 32, 37, 119]⟩ 1 = some [(0, 119, false)] := by kernel_rfl
theorem fmt0r (w : World) : (FmtDoors.printed ⟨#[114, 101, 97, 100, 105, 110, 103, 32, 116, 104, 101, 32, 66, 101, 97, 115, 116, 32, 115, 116, 114, 101, 97, 109, 58, 32, 37, 119]⟩ 1).run Ybaf.prog w = .ok [(0, 119, false)] w := by kernel_rfl
theorem ptr88 (w : World) : (FmtStop.ptrTo "errors.errorString").run Ybaf.prog w = .ok 88 w := by kernel_rfl
theorem elem88 (w : World) : (elemOf 88).run Ybaf.prog w = .ok 90 w := by kernel_rfl
theorem isError88 (w : World) : (FmtDoors.textMethod 88 "Error").run Ybaf.prog w = .ok true w := by kernel_rfl
theorem ptr123 (w : World) : (FmtStop.ptrTo "fmt.wrapError").run Ybaf.prog w = .ok 123 w := by kernel_rfl
theorem elem123 (w : World) : (elemOf 123).run Ybaf.prog w = .ok 156 w := by kernel_rfl
theorem isError123 (w : World) : (FmtDoors.textMethod 123 "Error").run Ybaf.prog w = .ok true w := by kernel_rfl
def plain88 : List UInt8 := 14 :: FmtStop.pack "*errors.errorString".toUTF8.data.toList
theorem opPlain88 (name : String) (a : Addr) (s : ByteArray) (w : World) (hc : w.cell? a = some (.string s)) :
    (FmtStop.operand name true 119 false (.iface 88 (.pointer (some a)))).run Ybaf.prog w = .ok (plain88, s.data.toList) w := by
  have h1 : (typeStr 88).run Ybaf.prog w = .ok "*errors.errorString" w := by kernel_rfl
  have d2 : Ybaf.t88.desc = .pointer 90 := rfl
  have d3 : Ybaf.t90.desc = .named "errors.errorString" 89 := rfl
  simp [FmtStop.operand, h1, d2, d3, run_load, hc, plain88]
end Go.Proofs.YbulkbpfuFmt
