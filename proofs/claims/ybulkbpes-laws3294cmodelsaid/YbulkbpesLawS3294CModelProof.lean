/-
  'Rows.LawS3294CModelSaid' PROVED: the shell written by program (proof-skeleton.mjs), its walk filled: the row of starts by 'rowIs' (Derived/Deep/OwnRows.lean), two loops.
-/
import Derived.Test.YbulkbpesRows
import Derived.WalkKit
import Derived.ProofKit
import Derived.OpenShut
import Derived.ShutString
import Derived.ChangeOld
import Derived.Below
import Derived.Deep.OwnRows
import Derived.Deep.LoopGhost
import Derived.Deep.QuietTactic
import Derived.BigQuiet
namespace Go.Proofs.Ybulkbpes.lawS3294CModel
open Go.ChangeShapes Go.WideShapes Go.ChangeAt Go.RowKit
open Go.ChangeMaps (open_string shut_string)
set_option linter.unusedVariables false

theorem own : ownKnob Yba.prog.godebug = none := by kernel_rfl
theorem laidOut : laidOutB Yba.prog = true := by kernel_rfl

theorem info25 : (Yba.prog.info? 25).map (fun i => (i.zero, i.size, i.bytes)) = some (some (.agg #[.string ByteArray.empty, .int .i64 0, .int .i64 0]), 3, 32) := by kernel_rfl

def zc : Array Value := #[.string ByteArray.empty, .int .i64 0, .int .i64 0]
theorem make_run (len : Nat) (h : len ≤ 1024) (w : World) : (Instr.makeSlice 23 (.int .i64 (len : Int)) (.int .i64 (len : Int))).run Yba.prog w = .ok (.slice (some ⟨w.heap.size, 0, none⟩) len len) (w.alloc (.cells (madeCells zc (len * 3)) 25)) := by
  obtain ⟨i, hi, hz0, hz1, hz2⟩ := info_parts info25
  have hr := run_make (P := Yba.prog) w 23 25 i _ Yba.underlying23 hi hz0 .i64 .i64 len len (by omega) (by omega) (by rw [hz2]; omega) (by omega)
  rw [hz1] at hr
  simpa [Value.cells, zc] using hr

/-- What cell j of the row of starts holds when the first k elements are laid. -/
def con (zs : List Int) (k j : Nat) : Value :=
  if j % 3 = 0 then .string ByteArray.empty else if j / 3 < k then (if j % 3 = 1 then .int .i64 (zs.getD (j / 3) 0) else .int .i64 ((j / 3 : Nat) + 1)) else .int .i64 0

theorem made (w : World) (zs : List Int) (len : Nat) : (w.alloc (.cells (madeCells zc (len * 3)) 25)).rowIs w.heap.size 25 (len * 3) (con zs 0) := by
  refine ⟨_, Deep.blk_alloc_new _ _, size_madeCells _ _, fun i hi => ?_⟩
  have h3 : i % 3 = 0 ∨ i % 3 = 1 ∨ i % 3 = 2 := by omega
  rcases h3 with h | h | h <;> simp [madeCells, zc, con, hi, h]

theorem laid {w : World} {g len : Nat} {zs : List Int} {k : Nat} (h : w.rowIs g 25 (len * 3) (con zs k)) :
    (((w.setCell ⟨g, k * 3, none⟩ (.string ByteArray.empty)).setCell ⟨g, k * 3 + 1, none⟩ (.int .i64 (zs.getD k 0))).setCell ⟨g, k * 3 + 2, none⟩ (.int .i64 ((k : Int) + 1))).rowIs g 25 (len * 3) (con zs (k + 1)) := by
  refine (((h.set _ _).set _ _).set _ _).congr fun j hj => ?_
  unfold con
  split
  · next e => subst e; simp [show (k * 3 + 2) % 3 = 2 by omega, show (k * 3 + 2) / 3 = k by omega]
  · next e2 =>
    split
    · next e => subst e; simp [show (k * 3 + 1) % 3 = 1 by omega, show (k * 3 + 1) / 3 = k by omega]
    · next e1 =>
      split
      · next e => subst e; simp
      · next e0 =>
        by_cases h0 : j % 3 = 0
        · simp [h0]
        · have : (j / 3 < k + 1) ↔ (j / 3 < k) := by omega
          simp [h0, this]

set_option maxHeartbeats 1000000 in
theorem walk_some (b off len0 cap0 : Nat) (zs : List Int) (a1 : Bool) (a2 : Int) (w : World) (hpos : 0 < len0) (hle : len0 ≤ 1024) (hb : b < w.heap.size) (hc : ∀ i, i < len0 → w.cell? ⟨b, off + i, none⟩ = some (.int .i64 (zs.getD i 0))) :
    Calls Yba.prog 3 #[.slice (some ⟨b, off, none⟩) len0 cap0, .bool a1, .int .i64 a2] w fun e w' => e = .returned (.bool true) ∧ Below w.heap.size w w' := by
  have hmk := make_run len0 hle
  go_enter Yba.func3, Yba.ntmps3
  go_wp2
  go_loopw [8, 9, 22] (fun s8 s9 i wr => ∃ k : Nat, k ≤ len0 ∧ i = .int .i64 k ∧ wr.rowIs w.heap.size 25 (len0 * 3) (con zs k) ∧ wr.heap.size = w.heap.size + 1 ∧ Below w.heap.size w wr) (fun _ _ i _ => len0 - (intOf i).toNat)
  case atStart => exact ⟨0, Nat.zero_le _, rfl, made w zs len0, by simp, (Below.refl _ _).alloc (Nat.le_refl _) _⟩
  case round =>
    obtain ⟨k, hk, rfl, hrow, hsz, hbel⟩ := hrel
    by_cases hlt : k < len0
    · have hcx : wr.cell? ⟨b, off + k, none⟩ = some (.int .i64 (zs.getD k 0)) := (hbel.cell (by exact hb)).trans (hc k hlt)
      have c0 : wr.cell? ⟨w.heap.size, k * 3, none⟩ = some (con zs k (k * 3)) := hrow.cell (by omega)
      have c1 : wr.cell? ⟨w.heap.size, k * 3 + 1, none⟩ = some (con zs k (k * 3 + 1)) := hrow.cell (by omega)
      have c2 : wr.cell? ⟨w.heap.size, k * 3 + 2, none⟩ = some (con zs k (k * 3 + 2)) := hrow.cell (by omega)
      have f0 := hrow.frozen (k * 3)
      have f1 := hrow.frozen (k * 3 + 1)
      have f2 := hrow.frozen (k * 3 + 2)
      have HR : Hid (wr.rowIs w.heap.size 25 (len0 * 3) (con zs k)) := hrow
      clear hrow hmk
      go_wp2
      go_roundw
      case rel => exact ⟨k + 1, by omega, by go_num, laid HR.out, by simp [hsz], ((hbel.setCell (by exact Nat.le_refl _) _).setCell (by exact Nat.le_refl _) _).setCell (by exact Nat.le_refl _) _⟩
      case measure => simp [intOf]; omega
    · obtain rfl : len0 = k := by omega
      have co : ∀ j, j < len0 → wr.cell? ⟨w.heap.size, j * 3 + 1, none⟩ = some (.int .i64 (zs.getD j 0)) := fun j hj => by
        rw [hrow.cell (by omega)]; simp [con, hj, show (j * 3 + 1) % 3 = 1 by omega, show (j * 3 + 1) / 3 = j by omega]
      have cl : ∀ j, j < len0 → wr.cell? ⟨w.heap.size, j * 3 + 2, none⟩ = some (.int .i64 ((j : Int) + 1)) := fun j hj => by
        rw [hrow.cell (by omega)]; simp [con, hj, show (j * 3 + 2) % 3 = 2 by omega, show (j * 3 + 2) / 3 = j by omega]
      have cx : ∀ j, j < len0 → wr.cell? ⟨b, off + j, none⟩ = some (.int .i64 (zs.getD j 0)) := fun j hj => (hbel.cell (by exact hb)).trans (hc j hj)
      clear hrow hmk hc hk hlt
      rename World => w1
      have hparts : (2 ≤ len0 ∨ (len0 < 2 ∧ a1 = false)) ∨ (len0 < 2 ∧ a1 = true) := by cases a1 <;> simp <;> omega
      have d1 : 2 ≤ len0 → w1.cell? ⟨w.heap.size, 4, none⟩ = some (.int .i64 (zs.getD 1 0)) := fun _ => co 1 (by omega)
      have d2 : 2 ≤ len0 → w1.cell? ⟨b, off + 1, none⟩ = some (.int .i64 (zs.getD 1 0)) := fun _ => cx 1 (by omega)
      rcases hparts with (h2 | ⟨h2, rfl⟩) | ⟨h2, rfl⟩
      all_goals
        go_wp2
        have HCO : Hid _ := co
        have HCL : Hid _ := cl
        have HCX : Hid _ := cx
        clear co cl cx d1 d2
        go_loopw [13, 80] (fun s13 i wx => ∃ k : Nat, k ≤ len0 ∧ i = .int .i64 k ∧ wx.cell? ⟨w.heap.size + 1, 11, none⟩ = some (.slice (some ⟨w.heap.size, 0, none⟩) len0 len0) ∧ Below (w.heap.size + 1) w1 wx) (fun _ i _ => len0 - (intOf i).toNat)
        case atStart => exact ⟨0, Nat.zero_le _, rfl, by rw [← hsz]; simp, (Below.refl _ _).alloc (by omega) _⟩
        case round =>
          obtain ⟨k, hk, rfl, hst, hbx⟩ := hrel
          by_cases hlt : k < len0
          · have e1 : wr.cell? ⟨w.heap.size, k * 3 + 1, none⟩ = some (.int .i64 (zs.getD k 0)) := (hbx.cell (by exact Nat.lt_succ_self _)).trans (HCO.out k hlt)
            have e2 : wr.cell? ⟨w.heap.size, k * 3 + 2, none⟩ = some (.int .i64 ((k : Int) + 1)) := (hbx.cell (by exact Nat.lt_succ_self _)).trans (HCL.out k hlt)
            have e3 : wr.cell? ⟨b, off + k, none⟩ = some (.int .i64 (zs.getD k 0)) := (hbx.cell (by exact Nat.lt_succ_of_lt hb)).trans (HCX.out k hlt)
            go_wp2
            go_quiet (fail)
            go_wp2
            go_roundw
            case rel => exact ⟨k + 1, by omega, by go_num, hst, ⟨hbx.os, hbx.tape, hbx.output, hbx.size, hbx.block⟩⟩
            case measure => simp [intOf]; omega
          · go_wp2
            go_ret
            exact ⟨rfl, hbel.trans (hbx.mono (Nat.le_succ _))⟩

/-- No elements (a nil slice too). -/
theorem walk_none (a0 : Option Addr) (cap0 : Nat) (a1 : Bool) (a2 : Int) (w : World) :
    Calls Yba.prog 3 #[.slice a0 0 cap0, .bool a1, .int .i64 a2] w fun e w' => e = .returned (.bool true) ∧ Below w.heap.size w w' := by
  have hmk : ∀ w, (Instr.makeSlice 23 (.int .i64 0) (.int .i64 0)).run Yba.prog w = .ok (.slice (some ⟨w.heap.size, 0, none⟩) 0 0) (w.alloc (.cells (madeCells zc 0) 25)) := fun w => make_run 0 (by omega) w
  cases a1
  all_goals
    go_enter Yba.func3, Yba.ntmps3
    go_wp2
    refine wp_loop_rounds 1 ?_
    rw [rounds_succ]
    go_wp2
    refine wp_loop_rounds 1 ?_
    rw [rounds_succ]
    go_wp2
    go_ret
    exact ⟨rfl, ((Below.refl _ _).alloc (Nat.le_refl _) _).alloc (by simp) _⟩
/-- More than 1024 elements: true at once. -/
theorem walk_long (a0 : Option Addr) (len0 cap0 : Nat) (a1 : Bool) (a2 : Int) (w : World) (h : 1024 < len0) :
    Calls Yba.prog 3 #[.slice a0 len0 cap0, .bool a1, .int .i64 a2] w fun e w' => e = .returned (.bool true) ∧ Below w.heap.size w w' := by
  go_enter Yba.func3, Yba.ntmps3
  go_wp2
  go_ret
  exact ⟨rfl, Below.refl _ _⟩

/-- WHAT THE WALK IS TOLD OF A SLICE OF INTEGERS THAT CAME IN: it is nil; or it leads to a row of 'cap' cells, the numbers 'zs' (the first 'len' are its elements, the rest its spare room), each fitting its kind. -/
def IsRow (k : IntKind) (w : World) (a : Option Addr) (len cap : Nat) (zs : List Int) : Prop :=
  (a = none ∧ len = 0 ∧ cap = 0 ∧ zs = []) ∨
  ∃ x, a = some x ∧ len ≤ cap ∧ cap ≤ maxLen ∧ zs.length = cap ∧ (∀ i, i < zs.length → w.cell? (x.add i) = some (.int k (zs.getD i 0))) ∧ ∀ n ∈ zs, (Lit.int k n).wf = true

/-! ### STEP 1: THE WALK: the Go text returns true, AND WRITES NOTHING THAT WAS THERE: 'Below w.heap.size w w'' (Derived/Below.lean: '.refl', '.alloc', '.drew', '.setCell' at a new block, '.trans'). Open each 'IsRow' by 'rcases' AHEAD of 'go_enter'; part every test ahead of the walk. -/
theorem walk (a0 : Option Addr) (len0 cap0 : Nat) (z0 : List Int) (a1 : Bool) (a2 : Int) (w : World) (w0 : IsRow .i64 w a0 len0 cap0 z0) (w2 : (Lit.int .i64 a2).wf = true) :
    Calls Yba.prog 3 #[.slice a0 len0 cap0, .bool a1, .int .i64 a2] w fun e w' => e = .returned (.bool true) ∧ Below w.heap.size w w' := by
  by_cases h1 : 1024 < len0
  · exact walk_long _ _ _ _ _ _ h1
  · rcases w0 with ⟨rfl, rfl, rfl, rfl⟩ | ⟨x, rfl, hl, hm, hz, hcell, hwz⟩
    · exact walk_none _ _ _ _ _
    · by_cases h0 : len0 = 0
      · subst h0
        exact walk_none _ _ _ _ _
      · obtain ⟨b, off, spot⟩ := x
        have hspot : spot = none := by simpa [Addr.add] using World.cell?_spot (hcell 0 (by omega))
        subst hspot
        have hcell' : ∀ j, j < len0 → w.cell? ⟨b, off + j, none⟩ = some (.int .i64 (z0.getD j 0)) := fun j hj => by rw [← add_plain]; exact hcell j (by omega)
        exact walk_some b off len0 cap0 z0 a1 a2 w (by omega) (by omega) (World.block_lt_of_cell? w _ (hcell' 0 (by omega))) hcell'

/-! ### THE ROW's STEP: WRITTEN OUT: LEAVE IT -/
set_option maxRecDepth 100000 in
theorem lifted (os : Os) (started : os.Started) (H : Type) (enc : TypeId × Value → H) :
    ReturnsInHanded {} Yba.checked os 3 .any (Rows.lawS3294CModelSpec.pre6 enc Yba.prog Yba.f3 Rows.lawS3294CModelRow.domain false) (Rows.lawS3294CModelSpec.post enc Yba.prog Yba.f3 false true false false) := by
  refine returnsInHanded_of_change (C := Yba.checked) own started (by kernel_rfl) Yba.func3
    (ChangeSpec.witness6 (enc := enc) (C := Yba.checked) false ⟨#[], #[.slice none 0 0, .bool false, .int .i64 0], []⟩ 8 (by kernel_rfl) (by kernel_rfl) (by kernel_rfl) (by kernel_rfl)) ?_
  intro W base args ds gs before hval0 hW hcnd _
  have hval : ∀ (j : Nat) t v, Yba.f3.params[j]? = some t → args[j]? = some v → Value.okWide Yba.prog W .any base t v := hval0
  have hW' := hW
  obtain ⟨p, q, hA0, hV, rfl, hfz, hnd⟩ := hW
  have hA : DataW.TrodAll enc Yba.prog W 0 (fun _ => true) true Yba.f3.params.toList args.toList ds p := hA0
  rw [Yba.params3] at hA hval
  obtain ⟨v0, vs0, d0, ds0, p0, q0, hargs, rfl, rfl, h0, r0⟩ := trodAll_cons hA
  obtain ⟨v1, vs1, d1, ds1, p1, q1, rfl, rfl, rfl, h1, r1⟩ := trodAll_cons r0
  obtain ⟨v2, vs2, d2, ds2, p2, q2, rfl, rfl, rfl, h2, r2⟩ := trodAll_cons r1
  obtain ⟨rfl, rfl, rfl⟩ := trodAll_nil r2
  obtain rfl : args = #[v0, v1, v2] := by cases args; simp_all
  obtain ⟨rfl, rfl⟩ := trodVars_none hV
  obtain ⟨a0, len0, cap0, rfl⟩ := okWide_slice Yba.underlying22 (hval 0 22 v0 rfl rfl)
  have k0 := h0
  have lt0 : ∀ x ∈ p0, x.block < W.heap.size := by obtain ⟨m, hm⟩ := k0; exact DataW.trod_lt m _ _ _ hm
  obtain ⟨z0, w0⟩ : ∃ zs, IsRow .i64 W a0 len0 cap0 zs := by
    obtain ⟨fuel, hf⟩ := h0
    rcases open_ints Yba.underlying22 Yba.underlying3 (by kernel_rfl) hf with ⟨hcs, _⟩ | ⟨x, l, c, zs, hcs, _, hl, hm, hz, _, hcell, hwz⟩
    · simp [Value.cells] at hcs
      obtain ⟨rfl, rfl, rfl⟩ := hcs
      exact ⟨[], .inl ⟨rfl, rfl, rfl, rfl⟩⟩
    · simp [Value.cells] at hcs
      obtain ⟨rfl, rfl, rfl⟩ := hcs
      exact ⟨zs, .inr ⟨_, rfl, hl, hm, by simpa using hz, hcell, hwz⟩⟩
  obtain ⟨a1, rfl, rfl, rfl⟩ := open_bool Yba.underlying4 (hval 1 4 v1 rfl rfl) h1
  obtain ⟨a2, rfl, rfl, rfl, w2⟩ := open_int Yba.underlying3 (hval 2 3 v2 rfl rfl) h2
  clear hA0 hval0
  refine (walk a0 len0 cap0 z0 a1 a2 W w0 w2).mono fun e W' ⟨he, bel⟩ => ?_
  subst he
  exact ⟨_, rfl, _, _, _, [], _, [], hW', trodAll_mk1 (shut_bool Yba.underlying4 _), (trodAll_cons_mk (Below.trod laidOut (by kernel_rfl) (of_decide_eq_true (by kernel_rfl)) k0 bel lt0) (trodAll_cons_mk (shut_bool Yba.underlying4 _) (trodAll_cons_mk (shut_int Yba.underlying3 w2) trodAll_mk0))), rfl, bel.frame _, fun h => by cases h⟩

theorem over : Rows.lawS3294CModelRow.holds Yba.pinned (OpenSpec.ofChange Rows.lawS3294CModelSpec) :=
  OpenClaim.holds_of_wide 3 Yba.f3 rfl rfl rfl rfl rfl rfl rfl ⟨rfl, rfl, rfl, rfl, rfl⟩ rfl rfl rfl rfl rfl (by kernel_rfl) Yba.func3 (by kernel_rfl)
    (of_decide_eq_true (by kernel_rfl)) (by unfold Func.isWrapper; first | (rw [if_pos (by decide +kernel)]; kernel_rfl) | (rw [if_neg (by decide +kernel)]; exact ⟨rfl, rfl⟩))
    (fun os started H enc _ => lifted os started H enc)

/-- ████ THE STATEMENT ████ -/
theorem proved : Rows.LawS3294CModelSaid := over
#print axioms proved
end Go.Proofs.Ybulkbpes.lawS3294CModel

namespace Go.Proofs.Ybulkbpes
theorem lawS3294CModel_holds : Rows.LawS3294CModelSaid := lawS3294CModel.proved
#print axioms lawS3294CModel_holds
end Go.Proofs.Ybulkbpes
