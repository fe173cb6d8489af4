import Derived.Test.YbulkbpfuMem
namespace Go.Proofs.Ybulkbpfu
open Go.ChangeShapes Go.WideShapes Go.ChangeAt Go.RowKit
set_option linter.unusedVariables false

/-- A Tracker that counts nothing. -/
def tcells (mp : Value) (p : Int) : Array Value := #[mp, .int .i64 0, .int .i64 0, .int .i64 0, .int .i64 0, .int .i64 0, .int .i64 0, .int .i64 0, .int .i64 0, .int .i64 0, .int .i64 p, .int .i64 0, .float .f64 0]
/-- Counts{} -/
def c0s : Array Value := #[.int .i64 0, .int .i64 0, .int .i64 0, .int .i64 0, .int .i64 0, .int .i64 0, .int .i64 0, .int .i64 0, .int .i64 0]

set_option maxRecDepth 100000 in
set_option maxHeartbeats 4000000 in
theorem endPeriod (T : Nat) (mp : Value) (p : Int) (w : World) (h : Is w T 43 (tcells mp p)) :
    Calls Yba.prog 9 #[.pointer (some ⟨T, 0, none⟩)] w fun e w' => e = .returned (.tuple #[]) ∧ (∃ p', Is w' T 43 (tcells mp p')) ∧ Kp (fun k => k = T) w w' := by
  have HT := hide h
  have c9 := h.cell 9
  have c10 := h.cell 10
  have c11 := h.cell 11
  have f9 := h.frozen 9
  have f10 := h.frozen 10
  have f11 := h.frozen 11
  simp [tcells] at c9 c10 c11
  clear h
  go_enter Yba.func9, Yba.ntmps9
  go_wp2
  go_region
  go_wp2
  go_end0
  refine ⟨rfl, ⟨wrap64 (p + 1), ?_⟩, ?_⟩
  · have h := ((HT.out.set 9 (.int .i64 0)).set 11 (.int .i64 0)).set 10 (.int .i64 (wrap64 (p + 1)))
    simp only [tcells] at h ⊢
    exact h.heap rfl
  · exact ((((Kp.refl (fun k => k = T) w).set (p := ⟨T, 9, none⟩) (fun _ => rfl) _).set (p := ⟨T, 11, none⟩) (fun _ => rfl) _).set (p := ⟨T, 10, none⟩) (fun _ => rfl) _).drew

set_option maxRecDepth 100000 in
set_option maxHeartbeats 4000000 in
theorem counts (T : Nat) (mp : Value) (p : Int) (w : World) (h : Is w T 43 (tcells mp p)) :
    Calls Yba.prog 10 #[.pointer (some ⟨T, 0, none⟩)] w fun e w' => e = .returned (.agg c0s) ∧ Kp (fun _ => False) w w' := by
  have HT := hide h
  have c1 := h.cell 1
  have c2 := h.cell 2
  have c3 := h.cell 3
  have c4 := h.cell 4
  have c5 := h.cell 5
  have c6 := h.cell 6
  have c7 := h.cell 7
  have c8 := h.cell 8
  have c9 := h.cell 9
  have c11 := h.cell 11
  simp [tcells] at c1 c2 c3 c4 c5 c6 c7 c8 c9 c11
  have hlt := h.lt
  clear h
  go_enter Yba.func10, Yba.ntmps10
  go_wp2
  go_region
  go_wp2
  refine bodyPost_ret (v := .agg c0s) (by simp [results, Yba.results10, go_sem, c0s]) rfl ⟨rfl, ?_⟩
  exact (((Kp.refl _ w).alloc _).alloc _).drew

theorem newMinutes (x : Nat) (w : World) :
    Calls Yba.prog 4 #[.float .f64 x] w fun e w' => e = .returned (.pointer (some ⟨w.heap.size, 0, none⟩)) ∧ w' = w.alloc (.cells #[.float .f64 x, .bool false, .float .f64 0, .float .f64 0, .float .f64 0, .slice none 0 0] 35) := by
  go_enter Yba.func4, Yba.ntmps4
  go_wp2
  go_ret
  exact ⟨rfl, rfl⟩

theorem newTracker (w : World) :
    Calls Yba.prog 5 #[] w fun e w' => ∃ mp, e = .returned (.pointer (some ⟨w.heap.size + 1, 0, none⟩)) ∧ Is w' (w.heap.size + 1) 43 (tcells mp 0) ∧ Kp (fun _ => False) w w' := by
  have hm : ∀ w : World, (Instr.makeMap 41 none).run Yba.prog w = .ok (.map (some w.heap.size)) (w.alloc (.map #[] 0)) := fun w => run_makeMap 41 w
  go_enter Yba.func5, Yba.ntmps5
  go_wp2_with (simp only [hm])
  go_ret
  refine ⟨.map (some w.heap.size), rfl, ?_, ?_⟩
  · have h := Is.new (w.alloc (.map #[] 0)) 43 (tcells (.map (some w.heap.size)) 0)
    rw [Deep.nblk_alloc] at h
    exact h
  · exact ((Kp.refl _ w).alloc _).alloc _

/-! ### math.Floor -/
theorem floorV (r m q : Nat) (i : Int) (hr : Ieee.double.read r = .number false m i) (hd : (Ieee.Datum.number false m i).integral .down = .number false q 0) (hq : q < 2 ^ 53) (w : World) :
    (Extern.MathFloor.toIntegral "math.archFloor" .down #[.float .f64 r]).run Yba.prog w = .ok (.float .f64 (F q)) w := by
  have h1 : FloatKind.f64.decode r = .number false m i := hr
  have h2 : FloatKind.f64.encode (.number false q 0) = F q := write_Rd (n := (q : Int)) ⟨0, by simp⟩ (by simpa using hq)
  have e1 : ∀ d, FloatKind.f64.decode r = d → d.isNaN = false → Extern.MathFloor.toIntegral "math.archFloor" .down #[.float .f64 r] = pure (.float .f64 (FloatKind.f64.encode (d.integral .down))) := by
    intro d hd hn
    cases d with
    | nan s t => cases hn
    | number s m i =>
      refine Eq.trans (show _ = (match FloatKind.f64.decode r with | .nan s t => _ | d => pure (.float .f64 (FloatKind.f64.encode (d.integral .down)))) from rfl) ?_
      rw [hd]
    | infinity s =>
      refine Eq.trans (show _ = (match FloatKind.f64.decode r with | .nan s t => _ | d => pure (.float .f64 (FloatKind.f64.encode (d.integral .down)))) from rfl) ?_
      rw [hd]
  rw [e1 _ h1 rfl, hd, h2]
  rfl

theorem arch (args : Array Value) (w : World) : (callFunc 12 args).run Yba.prog w = ((Extern.MathFloor.toIntegral "math.archFloor" .down args).run Yba.prog w).andThen fun v w' => .ok (.value v) w' :=
  run_callFunc_extern Yba.func12 (by kernel_rfl) (by kernel_rfl) (by kernel_rfl) (by kernel_rfl) args w

set_option maxRecDepth 100000 in
theorem floor (r m q : Nat) (i : Int) (hr : Ieee.double.read r = .number false m i) (hd : (Ieee.Datum.number false m i).integral .down = .number false q 0) (hq : q < 2 ^ 53) (w : World) :
    Calls Yba.prog 11 #[.float .f64 r] w fun e w' => e = .returned (.float .f64 (F q)) ∧ w' = w := by
  have hf := floorV r m q i hr hd hq
  have ha := arch
  clear hr hd
  go_enter Yba.func11, Yba.ntmps11
  go_wp2_with (simp only [ha, hf])
  go_ret
  exact ⟨rfl, rfl⟩

set_option maxRecDepth 100000 in
set_option maxHeartbeats 4000000 in
theorem end_ (B : Nat) (L fi wh : Int) (st : Bool) (sv ev : Value) (w : World) (h : Is w B 35 #[.float .f64 (F L), .bool st, sv, .float .f64 (F fi), .float .f64 (F wh), ev])
    (hL : 0 ≤ L ∧ L ≤ 8) (hf : fi.natAbs < 2 ^ 20) (hw : 0 ≤ wh ∧ wh < 2 ^ 20) :
    Calls Yba.prog 7 #[.pointer (some ⟨B, 0, none⟩)] w fun e w' => e = .returned (.float .f64 (F (fi + (wh + 1) * L))) ∧ Kp (fun _ => False) w w' := by
  have c0 := h.cell 0
  have c3 := h.cell 3
  have c4 := h.cell 4
  simp at c0 c3 c4
  have h1 : F 1 = 4607182418800017408 := by decide +kernel
  have hb : 0 ≤ (wh + 1) * L ∧ (wh + 1) * L ≤ 2 ^ 20 * 8 := by
    constructor
    · exact Int.mul_nonneg (by omega) hL.1
    · exact Int.mul_le_mul (by omega) hL.2 hL.1 (by omega)
  have a1 : ∀ (t : TypeId) (w : World), (binOp .add t (.float .f64 (F wh)) (.float .f64 4607182418800017408)).run Yba.prog w = .ok (.float .f64 (F (wh + 1))) w := fun t w => run_float_arith w .add t .f64 _ _ _ (by rw [← h1]; exact add_F (by omega) (by omega) (by omega))
  have a2 : ∀ (t : TypeId) (w : World), (binOp .mul t (.float .f64 (F (wh + 1))) (.float .f64 (F L))).run Yba.prog w = .ok (.float .f64 (F ((wh + 1) * L))) w := fun t w => run_float_arith w .mul t .f64 _ _ _ (mul_F (by omega) (by omega) (by omega) (by omega) (by omega))
  have a3 : ∀ (t : TypeId) (w : World), (binOp .add t (.float .f64 (F fi)) (.float .f64 (F ((wh + 1) * L)))).run Yba.prog w = .ok (.float .f64 (F (fi + (wh + 1) * L))) w := fun t w => run_float_arith w .add t .f64 _ _ _ (add_F (by omega) (by omega) (by omega))
  clear h h1 hb
  go_enter Yba.func7, Yba.ntmps7
  go_wp2
  go_quiet (simp only [a1, a2, a3])
  go_wp2
  go_ret
  exact ⟨rfl, (Kp.refl _ w).drewN _⟩
end Go.Proofs.Ybulkbpfu
