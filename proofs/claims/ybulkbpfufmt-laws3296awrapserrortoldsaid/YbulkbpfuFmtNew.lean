import Derived.Test.YbulkbpfuFmtNext
namespace Go.Proofs.YbulkbpfuFmt
open Go.ChangeShapes Go.WideShapes Go.ChangeAt Go.RowKit
set_option linter.unusedVariables false

theorem infoB : (Ybaf.prog.info? 5).map (fun i => (i.zero, i.size, i.bytes)) = some (some (.int .u8 0), 1, 1) := by kernel_rfl

theorem make4096 (w : World) : (Instr.makeSlice 22 (.int .i64 4096) (.int .i64 4096)).run Ybaf.prog w = .ok (.slice (some ⟨w.heap.size, 0, none⟩) 4096 4096) (w.alloc (.cells (madeCells #[.int .u8 0] 4096) 5)) :=
  run_make_row' (P := Ybaf.prog) 22 5 (.int .u8 0) 1 Ybaf.underlying22 infoB rfl .i64 .i64 4096 (by omega) (by omega) w

theorem assert_src (a : Addr) (w : World) : (Instr.typeAssert (.iface 34 (.pointer (some a))) 77 78 true).run Ybaf.prog w = .ok (.tuple #[.pointer none, .bool false]) w := by kernel_rfl

theorem is_new_at (w : World) (t : TypeId) (c : Array Value) (b : Nat) (h : w.heap.size = b) : Is (w.alloc (.cells c t)) b t c := by subst h; exact Is.new w t c

/-- The new buffer, kept shut. -/
def buf0 : Array Value := madeCells #[.int .u8 0] 4096

set_option maxRecDepth 100000 in
set_option maxHeartbeats 4000000 in
theorem newReader_any (S : Nat) (w : World) :
    Calls Ybaf.prog 8 #[.iface 34 (.pointer (some ⟨S, 0, none⟩))] w fun e w' => e = .returned (.pointer (some ⟨w.heap.size + 1 + 1, 0, none⟩)) ∧
      Is w' w.heap.size 101 (brc (w.heap.size + 1) S 0 0 .nilIface (.int .i64 (-1)) (.int .i64 (-1))) ∧ Is w' (w.heap.size + 1) 5 buf0 ∧
      (∃ c, Is w' (w.heap.size + 1 + 1) 82 c ∧ c.size = 25 ∧ c[0]? = some (.pointer (some ⟨w.heap.size, 0, none⟩)) ∧ c[1]? = some (.bool true) ∧ c[2]? = some (.int .u8 0) ∧ c[3]? = some (.int .u8 0)) ∧ Kp (fun _ => False) w w' := by
  have hmk : ∀ w : World, (Instr.makeSlice 22 (.int .i64 4096) (.int .i64 4096)).run Ybaf.prog w = .ok (.slice (some ⟨w.heap.size, 0, none⟩) 4096 4096) (w.alloc (.cells buf0 5)) := make4096
  have hta := assert_src
  go_enter Ybaf.func8, Ybaf.ntmps8
  go_wp2
  go_end0
  go_wp2
  go_ret
  refine ⟨rfl, ?_, ?_, ?_, ?_⟩
  · exact ((Is.new w 101 _).alloc _).alloc _
  · refine Is.alloc ?_ _
    have h := Is.new (w.alloc (.cells #[.slice (some ⟨w.heap.size + 1, 0, none⟩) 4096 4096, .iface 34 (.pointer (some ⟨S, 0, none⟩)), .int .i64 0, .int .i64 0, .nilIface, .int .i64 (-1), .int .i64 (-1)] 101)) 5 buf0
    rw [Deep.nblk_alloc] at h
    exact h
  · refine ⟨_, is_new_at _ _ _ _ (by rw [Deep.nblk_alloc, Deep.nblk_alloc]), rfl, rfl, rfl, rfl, rfl⟩
  · exact (((Kp.refl _ w).alloc _).alloc _).alloc _
end Go.Proofs.YbulkbpfuFmt
