import Derived.Test.YbulkbpfuFmtOpen
import Derived.SevenTiedAt
namespace Go.Proofs.YbulkbpfuFmt
open Go.ChangeShapes Go.WideShapes Go.ChangeAt Go.RowKit
set_option linter.unusedVariables false

theorem Ybaf.own : ownKnob Ybaf.prog.godebug = none := by kernel_rfl
theorem Ybaf.laidOut : laidOutB Ybaf.pinned.checked.prog = true := by kernel_rfl
theorem Ybaf.stops' : Ybaf.pinned.checked.prog.stops = ["fmt.Sprintf", "fmt.errorf"] := by kernel_rfl
theorem Ybaf.stopKnobs' : Ybaf.pinned.checked.prog.stopKnobs = [] := by kernel_rfl
theorem Ybaf.quiet (os : Os) : Stop.quiet Ybaf.pinned.checked.prog os := by
  intro k hk
  rw [Ybaf.stopKnobs'] at hk
  cases hk
theorem tE : (Ybaf.prog.globals[0]?).map (·.type) = some 36 := by kernel_rfl

theorem eof_of_laid {W : World} (h : laidMetH Ybaf.prog Rows.lawS3296ARoundTripRow.laid W) : ∃ a, W.cell? ⟨0, 0, none⟩ = some (.iface 88 (.pointer (some a))) := by
  rw [MakeChecks.laidMetH_plain _ _ _ (by kernel_rfl)] at h
  have h' : laidMet Ybaf.prog ((nmE, Rows.laid_io_EOF) :: Rows.lawS3296ARoundTripRow.laid.tail) W := h
  obtain ⟨a, s, hv, _⟩ := laid_sentinel h' gE tE Ybaf.underlying36 nameE Ybaf.underlying88 Ybaf.underlying90 rfl rfl Ybaf.underlying9 (by kernel_rfl) (by kernel_rfl)
  exact ⟨a, by simpa using World.var?_cell gE hv 0⟩

theorem door_met (os : Os) (args : Array Value) : laidMetH Ybaf.prog Rows.lawS3296ARoundTripRow.laid ((World.doorLaid Ybaf.prog 66 os).forCall (fun _ _ => 0) ⟨#[], args, []⟩).memory :=
  laidMetH_of_parts3 (fuel := 8) (laidMet_of_run' 8 (by kernel_rfl) (by kernel_rfl)) (by kernel_rfl) (by kernel_rfl)

theorem law_all (ja fa : Option Addr) (jb jo jl jc fb fo fl fc : Nat) (J : List Int) (fr : Nat → Fr) (x : Fr) (cut : Int) (ea : Addr) (w : World) (hcut : 0 ≤ cut ∧ cut ≤ 65535)
    (hja : 0 < jl → ja = some ⟨jb, jo, none⟩ ∧ jb < w.heap.size) (hJ : ∀ j, j < jl → w.cell? ⟨jb, jo + j, none⟩ = some (.int .u8 (J.getD j 0))) (hJl : jl ≤ J.length)
    (hfa : 0 < fl → fa = some ⟨fb, fo, none⟩ ∧ fb < w.heap.size) (hF : ∀ i, i < fl → FrOk w (fr i) ∧ w.cell? ⟨fb, fo + i * 4, none⟩ = some (.int .u8 (fr i).K) ∧ w.cell? ⟨fb, fo + i * 4 + 1, none⟩ = some (.int .u64 (fr i).C) ∧ w.cell? ⟨fb, fo + i * 4 + 2, none⟩ = some (.int .u8 (fr i).G) ∧ w.cell? ⟨fb, fo + i * 4 + 3, none⟩ = some (.slice (fr i).ao (fr i).dl (fr i).dc))
    (hx : FrOk w x) (hE : w.cell? ⟨0, 0, none⟩ = some (.iface 88 (.pointer (some ea)))) :
    Calls Ybaf.prog 3 #[.slice ja jl jc, .slice fa fl fc, .agg #[.int .u8 x.K, .int .u64 x.C, .int .u8 x.G, .slice x.ao x.dl x.dc], .int .u16 cut] w fun e w' => e = .returned (.bool true) ∧ Below w.heap.size w w' := by
  by_cases h : 300 < fl ∨ 1024 < jl
  · exact law_long ja fa jl jc fl fc x cut w h
  · exact law_walk ja fa jb jo jl jc fb fo fl fc J fr x cut ea w (by omega) (by omega) hcut (World.block_lt_of_cell? w _ hE) hja hJ hJl hfa hF hx hE

theorem trod_below {H : Type} {enc : TypeId × Value → H} {W W' : World} {t : TypeId} {v : Value} {d : DataW H} {ps : List MemPlace} (hr : Ybaf.prog.readableRec t = true) (hrow : t < Ybaf.prog.types.size)
    (h : DataW.Trod enc Ybaf.prog W 0 (fun _ => true) true t v d ps) (bel : Below W.heap.size W W') : DataW.Trod enc Ybaf.prog W' 0 (fun b => decide (b < W.heap.size)) true t v d ps := by
  refine Below.trod Ybaf.laidOut hr hrow h bel ?_
  obtain ⟨m, hm⟩ := h
  exact DataW.trod_lt m _ _ _ hm

set_option maxRecDepth 100000 in
theorem rt_lifted (os : Os) (started : os.Started) (H : Type) (enc : TypeId × Value → H) :
    ReturnsInTold none {} Ybaf.checked os 3 .any Input.okWide ((OpenSpec.ofChange Rows.lawS3296ARoundTripSpec).preRow enc Ybaf.prog Ybaf.f3 [] false Rows.lawS3296ARoundTripRow.laid) (fun F => ((OpenSpec.ofChange Rows.lawS3296ARoundTripSpec).at F).post enc Ybaf.prog Ybaf.f3 false true false false) (aloneAtReturn Ybaf.prog) nothingAlways := by
  refine returnsInTold_of_row (C := Ybaf.checked) (s := OpenSpec.ofChange Rows.lawS3296ARoundTripSpec) (by kernel_rfl) Ybaf.own started (by kernel_rfl) Ybaf.func3
    (OpenSpec.witness_stopped_at (enc := enc) (C := Ybaf.checked) false (World.doorLaid Ybaf.prog 66 os) #[.slice none 0 0, .slice none 0 0, .agg #[.int .u8 0, .int .u64 0, .int .u8 0, .slice none 0 0], .int .u16 0] rfl (by kernel_rfl) (by kernel_rfl) (by kernel_rfl)
      (OpenSpec.preRow_of_B rfl 8 (by kernel_rfl) (by kernel_rfl) (door_met os _))) ?_
  intro F W base args ds gs before _ hF hval0 hW _ _ _ hL _
  have hval : ∀ (j : Nat) t v, Ybaf.f3.params[j]? = some t → args[j]? = some v → Value.okWide Ybaf.prog W .any base t v := hval0
  have hW' := hW
  obtain ⟨p, q, hA0, hV, rfl, hfz, hnd⟩ := hW
  have hA : DataW.TrodAll enc Ybaf.prog W 0 (fun _ => true) true Ybaf.f3.params.toList args.toList ds p := hA0
  rw [Ybaf.params3] at hA hval
  obtain ⟨v0, vs0, d0, ds0, p0, q0, hargs, rfl, rfl, h0, r0⟩ := trodAll_cons hA
  obtain ⟨v1, vs1, d1, ds1, p1, q1, rfl, rfl, rfl, h1, r1⟩ := trodAll_cons r0
  obtain ⟨v2, vs2, d2, ds2, p2, q2, rfl, rfl, rfl, h2, r2⟩ := trodAll_cons r1
  obtain ⟨v3, vs3, d3, ds3, p3, q3, rfl, rfl, rfl, h3, r3⟩ := trodAll_cons r2
  obtain ⟨rfl, rfl, rfl⟩ := trodAll_nil r3
  obtain rfl : args = #[v0, v1, v2, v3] := by cases args; simp_all
  obtain ⟨rfl, rfl⟩ := trodVars_none hV
  obtain ⟨ja, jl, jc, rfl⟩ := okWide_slice Ybaf.underlying22 (hval 0 22 v0 rfl rfl)
  obtain ⟨fa, fl, fc, rfl⟩ := okWide_slice Ybaf.underlying23 (hval 1 23 v1 rfl rfl)
  obtain ⟨cs, rfl, hcs⟩ := okWide_struct Ybaf.underlying26 (hval 2 26 v2 rfl rfl)
  obtain ⟨cut, rfl, rfl, rfl, wcut⟩ := open_int Ybaf.underlying27 (hval 3 27 v3 rfl rfl) h3
  clear hA0 hval0 hval hA
  obtain ⟨jb, jo, J, _, hja, hJl, hJ, _⟩ := row_of_trod h0.choose_spec
  obtain ⟨fb, fo, fr, hfa, hFr⟩ := frs_of_trod h1.choose_spec
  obtain ⟨x, hx, hxc⟩ := fr_of_trod h2.choose_spec
  have hcx : cs = #[.int .u8 x.K, .int .u64 x.C, .int .u8 x.G, .slice x.ao x.dl x.dc] := by
    apply Array.ext'
    simpa [Value.cells] using hxc
  subst hcx
  obtain ⟨ea, hE⟩ := eof_of_laid hL
  have bc := bounds_u16 wcut
  refine (law_all ja fa jb jo jl jc fb fo fl fc J fr x cut ea W ⟨by omega, by omega⟩ hja hJ hJl hfa hFr hx hE).mono fun e W' ⟨he, bel⟩ => ?_
  subst he
  exact ⟨_, rfl, _, _, _, [], _, [], hW', trodAll_mk1 (shut_bool Ybaf.underlying4 _), (trodAll_cons_mk (trod_below (by kernel_rfl) (of_decide_eq_true (by kernel_rfl)) h0 bel) (trodAll_cons_mk (trod_below (by kernel_rfl) (of_decide_eq_true (by kernel_rfl)) h1 bel) (trodAll_cons_mk (trod_below (by kernel_rfl) (of_decide_eq_true (by kernel_rfl)) h2 bel) (trodAll_cons_mk (shut_int Ybaf.underlying27 wcut) trodAll_mk0)))), rfl, bel.frame _, fun h => by cases h⟩

/-- ████ THE TOLD AND TIED CARD ████ -/
theorem lawS3296ARoundTrip_told_holds : Rows.LawS3296ARoundTripToldSaid :=
  Claim7.holds_of_told_tied_any_at .later 3 Ybaf.f3 "fmt.Sprintf" ["fmt.errorf"] [] Rows.lawS3296ARoundTripCard.stood.harness true false [.sentinel, .sentinel, .sentinel] true (by kernel_rfl) rfl rfl rfl Ybaf.laidOut (by kernel_rfl) rfl ⟨rfl, rfl, rfl, rfl, rfl, rfl, rfl⟩ rfl rfl (by kernel_rfl) (by kernel_rfl) Ybaf.func3 (by kernel_rfl)
    (of_decide_eq_true (by kernel_rfl)) (of_decide_eq_true (by kernel_rfl)) Ybaf.stops'.symm rfl Ybaf.stopKnobs'.symm (by kernel_rfl)
    (by kernel_rfl) (by kernel_rfl) (by kernel_rfl) (by kernel_rfl) (by kernel_rfl) (by kernel_rfl) (by kernel_rfl) (by kernel_rfl) (by kernel_rfl) rfl (by kernel_rfl) rfl rfl
    rfl rfl
    rfl (by kernel_rfl) (by kernel_rfl) (by kernel_rfl) (by decide) (by kernel_rfl) lawS3296ARoundTrip_row_tie
    (OpenClaim.moreEntering_of (by kernel_rfl) (by kernel_rfl) (by kernel_rfl) (by kernel_rfl) (by kernel_rfl) (by kernel_rfl) (by kernel_rfl) (by kernel_rfl) (by kernel_rfl) (by kernel_rfl))
    ⟨_, WideRow.started_initial, Ybaf.quiet _⟩
    (fun os started _ H enc _ => rt_lifted os started H enc)
#print axioms lawS3296ARoundTrip_told_holds
end Go.Proofs.YbulkbpfuFmt
