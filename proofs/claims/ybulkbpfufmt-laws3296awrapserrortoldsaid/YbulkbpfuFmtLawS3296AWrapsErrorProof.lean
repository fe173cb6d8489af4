import Derived.Test.YbulkbpfuFmtWrap
import Derived.SevenTiedAt
namespace Go.Proofs.YbulkbpfuFmt
open Go.ChangeShapes Go.WideShapes Go.ChangeAt Go.RowKit
set_option linter.unusedVariables false

theorem Ybaf.own : ownKnob Ybaf.prog.godebug = none := by kernel_rfl
theorem Ybaf.laidOut : laidOutB Ybaf.pinned.checked.prog = true := by kernel_rfl
theorem Ybaf.stops' : Ybaf.pinned.checked.prog.stops = ["fmt.Sprintf", "fmt.errorf"] := by kernel_rfl
theorem Ybaf.stopKnobs' : Ybaf.pinned.checked.prog.stopKnobs = [] := by kernel_rfl
theorem Ybaf.quiet (os : Os) : Stop.quiet Ybaf.pinned.checked.prog os := by
  intro k hk
  rw [Ybaf.stopKnobs'] at hk
  cases hk
theorem tE : (Ybaf.prog.globals[0]?).map (·.type) = some 36 := by kernel_rfl
def nmP : String := (Rows.lawS3296AWrapsErrorRow.laid.map (·.1)).getD 1 ""
theorem gP : Ybaf.prog.globalNamed nmP = some 3 := by kernel_rfl
theorem tP : (Ybaf.prog.globals[3]?).map (·.type) = some 36 := by kernel_rfl

theorem eof_of_laid {W : World} (h : laidMetH Ybaf.prog Rows.lawS3296AWrapsErrorRow.laid W) : ∃ a c t, W.cell? ⟨0, 0, none⟩ = some (.iface 88 (.pointer (some a))) ∧ W.heap[a.block]? = some (.cells c t (0, 0)) := by
  rw [MakeChecks.laidMetH_plain _ _ _ (by kernel_rfl)] at h
  have h' : laidMet Ybaf.prog ((nmE, Rows.laid_io_EOF) :: (nmP, Rows.laid_io_ErrNoProgress) :: Rows.lawS3296AWrapsErrorRow.laid.tail.tail) W := h
  obtain ⟨a0, a1, s0, s1, c0, c1, t0, t1, hv0, hv1, hc0, hs0, hz0, hc1, hs1, hz1, hne, hb0, hb1⟩ := laid_sentinels2 h' gE tE gP tP Ybaf.underlying36 nameE Ybaf.underlying88 Ybaf.underlying90 rfl rfl Ybaf.underlying9 (by kernel_rfl) (by kernel_rfl)
  exact ⟨a0, c0, t0, by simpa using World.var?_cell gE hv0 0, hb0⟩

theorem door_met (os : Os) (args : Array Value) : laidMetH Ybaf.prog Rows.lawS3296AWrapsErrorRow.laid ((World.doorLaid Ybaf.prog 66 os).forCall (fun _ _ => 0) ⟨#[], args, []⟩).memory :=
  laidMetH_of_parts3 (fuel := 8) (laidMet_of_run' 8 (by kernel_rfl) (by kernel_rfl)) (by kernel_rfl) (by kernel_rfl)

theorem trod_below {H : Type} {enc : TypeId × Value → H} {W W' : World} {t : TypeId} {v : Value} {d : DataW H} {ps : List MemPlace} (hr : Ybaf.prog.readableRec t = true) (hrow : t < Ybaf.prog.types.size)
    (h : DataW.Trod enc Ybaf.prog W 0 (fun _ => true) true t v d ps) (bel : Below W.heap.size W W') : DataW.Trod enc Ybaf.prog W' 0 (fun b => decide (b < W.heap.size)) true t v d ps := by
  refine Below.trod Ybaf.laidOut hr hrow h bel ?_
  obtain ⟨m, hm⟩ := h
  exact DataW.trod_lt m _ _ _ hm

set_option maxRecDepth 100000 in
theorem we_lifted (os : Os) (started : os.Started) (H : Type) (enc : TypeId × Value → H) :
    ReturnsInTold none {} Ybaf.checked os 4 .any Input.okWide ((OpenSpec.ofChange Rows.lawS3296AWrapsErrorSpec).preRow enc Ybaf.prog Ybaf.f4 [] false Rows.lawS3296AWrapsErrorRow.laid) (fun F => ((OpenSpec.ofChange Rows.lawS3296AWrapsErrorSpec).at F).post enc Ybaf.prog Ybaf.f4 false true false false) (aloneAtReturn Ybaf.prog) nothingAlways := by
  refine returnsInTold_of_row (C := Ybaf.checked) (s := OpenSpec.ofChange Rows.lawS3296AWrapsErrorSpec) (by kernel_rfl) Ybaf.own started (by kernel_rfl) Ybaf.func4
    (OpenSpec.witness_stopped_at (enc := enc) (C := Ybaf.checked) false (World.doorLaid Ybaf.prog 66 os) #[.slice none 0 0] rfl (by kernel_rfl) (by kernel_rfl) (by kernel_rfl)
      (OpenSpec.preRow_of_B rfl 8 (by kernel_rfl) (by kernel_rfl) (door_met os _))) ?_
  intro F W base args ds gs before _ hF hval0 hW _ _ _ hL _
  have hval : ∀ (j : Nat) t v, Ybaf.f4.params[j]? = some t → args[j]? = some v → Value.okWide Ybaf.prog W .any base t v := hval0
  have hW' := hW
  obtain ⟨p, q, hA0, hV, rfl, hfz, hnd⟩ := hW
  have hA : DataW.TrodAll enc Ybaf.prog W 0 (fun _ => true) true Ybaf.f4.params.toList args.toList ds p := hA0
  rw [Ybaf.params4] at hA hval
  obtain ⟨v0, vs0, d0, ds0, p0, q0, hargs, rfl, rfl, h0, r0⟩ := trodAll_cons hA
  obtain ⟨rfl, rfl, rfl⟩ := trodAll_nil r0
  obtain rfl : args = #[v0] := by cases args; simp_all
  obtain ⟨rfl, rfl⟩ := trodVars_none hV
  obtain ⟨fa, fl, fc, rfl⟩ := okWide_slice Ybaf.underlying23 (hval 0 23 v0 rfl rfl)
  clear hA0 hval0 hval hA
  obtain ⟨fb, fo, fr, hfa, hFr⟩ := frs_of_trod h0.choose_spec
  obtain ⟨ea, cb, tb, hE, hEb⟩ := eof_of_laid hL
  have hall : Calls Ybaf.prog 4 #[.slice fa fl fc] W fun e w' => e = .returned (.bool true) ∧ Below W.heap.size W w' := by
    by_cases h : 300 < fl
    · exact wrap_long fa fl fc W h
    · exact wrap_walk F.told fa fb fo fl fc fr ea cb tb W (by omega) hF hfa hFr hE hEb
  refine hall.mono fun e W' ⟨he, bel⟩ => ?_
  subst he
  exact ⟨_, rfl, _, _, _, [], _, [], hW', trodAll_mk1 (shut_bool Ybaf.underlying4 _), (trodAll_cons_mk (trod_below (by kernel_rfl) (of_decide_eq_true (by kernel_rfl)) h0 bel) trodAll_mk0), rfl, bel.frame _, fun h => by cases h⟩

/-- ████ THE TOLD AND TIED CARD ████ -/
theorem lawS3296AWrapsError_told_holds : Rows.LawS3296AWrapsErrorToldSaid :=
  Claim7.holds_of_told_tied_any_at .later 4 Ybaf.f4 "fmt.Sprintf" ["fmt.errorf"] [] Rows.lawS3296AWrapsErrorCard.stood.harness true false [.sentinel, .sentinel, .sentinel] true (by kernel_rfl) rfl rfl rfl Ybaf.laidOut (by kernel_rfl) rfl ⟨rfl, rfl, rfl, rfl, rfl, rfl, rfl⟩ rfl rfl (by kernel_rfl) (by kernel_rfl) Ybaf.func4 (by kernel_rfl)
    (of_decide_eq_true (by kernel_rfl)) (of_decide_eq_true (by kernel_rfl)) Ybaf.stops'.symm rfl Ybaf.stopKnobs'.symm (by kernel_rfl)
    (by kernel_rfl) (by kernel_rfl) (by kernel_rfl) (by kernel_rfl) (by kernel_rfl) (by kernel_rfl) (by kernel_rfl) (by kernel_rfl) (by kernel_rfl) rfl (by kernel_rfl) rfl rfl
    rfl rfl
    rfl (by kernel_rfl) (by kernel_rfl) (by kernel_rfl) (by decide) (by kernel_rfl) lawS3296AWrapsError_row_tie
    (OpenClaim.moreEntering_of (by kernel_rfl) (by kernel_rfl) (by kernel_rfl) (by kernel_rfl) (by kernel_rfl) (by kernel_rfl) (by kernel_rfl) (by kernel_rfl) (by kernel_rfl) (by kernel_rfl))
    ⟨_, WideRow.started_initial, Ybaf.quiet _⟩
    (fun os started _ H enc _ => we_lifted os started H enc)
#print axioms lawS3296AWrapsError_told_holds
end Go.Proofs.YbulkbpfuFmt
