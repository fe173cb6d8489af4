/-
  'Rows.LawS3294BImageCardSaid' PROVED: the row's step (the law over the walk), then the tied card by the builder's one call.
-/
import Derived.Test.YbulkbpesDoorWalk
import Derived.Test.YbulkbpesDoorTie
import Derived.Test.YbulkbpesDoorCards
import Derived.ShutString
import Derived.LaidMore
import Derived.Lib.LaidTab
import Derived.Stop.Joined
import Derived.SevenTiedAt
namespace Go.Proofs.YbulkbpesDoor.lawS3294BImage
open Go.ChangeShapes Go.WideShapes Go.ChangeAt Go.RowKit
set_option linter.unusedVariables false

theorem own : ownKnob Ybad.prog.godebug = none := by kernel_rfl
theorem laidOut : laidOutB Ybad.prog = true := by kernel_rfl
/-- The listed variable's name. -/
def nm : String := (Rows.lawS3294BImageRow.laid.map (·.1)).headD ""
theorem gTab : Ybad.prog.globalNamed nm = some 0 := by kernel_rfl
theorem tTab : (Ybad.prog.globals[0]?).map (·.type) = some 43 := by kernel_rfl
theorem cells43 : Ybad.prog.cellsOf 43 = 64 := by kernel_rfl
theorem cells5 : Ybad.prog.cellsOf 5 = 1 := by kernel_rfl
theorem tab_is : Rows.laid_math_bits_deBruijn64tab (H := Unit) = Lib.tabData .u8 (Lib.deBruijn64tab.map fun n : Nat => (n : Int)) := by kernel_rfl

/-- The door's own heap meets the condition. -/
theorem door_met (os : Os) (args : Array Value) : laidMetH Ybad.prog Rows.lawS3294BImageRow.laid ((World.doorLaid Ybad.prog 14 os).forCall (fun _ _ => 0) ⟨#[], args, []⟩).memory :=
  laidMetH_of_parts3 (fuel := 8) (laidMet_of_run' 8 (by kernel_rfl) (by kernel_rfl)) (by kernel_rfl) (by kernel_rfl)

theorem of_laid {W : World} (h : laidMetH Ybad.prog Rows.lawS3294BImageRow.laid W) : TabAt W := by
  rw [MakeChecks.laidMetH_plain _ _ _ (by kernel_rfl)] at h
  have h' : laidMet Ybad.prog [(nm, Lib.tabData .u8 (Lib.deBruijn64tab.map fun n : Nat => (n : Int)))] W := by rw [← tab_is]; exact h
  have ht := Lib.tabIs_of_head gTab tTab Ybad.underlying43 Ybad.underlying5 cells5 cells43 h'
  intro j hj
  have := ht.cell gTab j (by simpa using hj)
  rw [this]
  simp [List.getD, hj]

/-- WHAT THE WALK IS TOLD OF A SLICE OF INTEGERS THAT CAME IN: it is nil; or it leads to a row of 'cap' cells, the numbers 'zs'. -/
def IsRow (k : IntKind) (w : World) (a : Option Addr) (len cap : Nat) (zs : List Int) : Prop :=
  (a = none ∧ len = 0 ∧ cap = 0 ∧ zs = []) ∨
  ∃ x, a = some x ∧ len ≤ cap ∧ cap ≤ maxLen ∧ zs.length = cap ∧ (∀ i, i < zs.length → w.cell? (x.add i) = some (.int k (zs.getD i 0))) ∧ ∀ n ∈ zs, (Lit.int k n).wf = true

theorem zs_range {zs : List Int} (hwz : ∀ n ∈ zs, (Lit.int .u8 n).wf = true) (i : Nat) : 0 ≤ zs.getD i 0 ∧ zs.getD i 0 ≤ 255 := by
  by_cases h : i < zs.length
  · have := bounds_u8 (hwz _ (List.getElem_mem h))
    simp [List.getD, h]; omega
  · simp [List.getD, List.getElem?_eq_none (by omega : zs.length ≤ i)]

theorem walk' (a0 : Int) (a1 : Option Addr) (len1 cap1 : Nat) (z1 : List Int) (a2 a3 a4 : Int) (w : World) (w0 : (Lit.int .u8 a0).wf = true) (w1 : IsRow .u8 w a1 len1 cap1 z1) (w2 : (Lit.int .u8 a2).wf = true) (w3 : (Lit.int .u8 a3).wf = true) (w4 : (Lit.int .u64 a4).wf = true) (hT : TabAt w) :
    Calls Ybad.prog 4 #[.int .u8 a0, .slice a1 len1 cap1, .int .u8 a2, .int .u8 a3, .int .u64 a4] w fun e w' => e = .returned (.bool true) ∧ Below w.heap.size w w' := by
  have b0 := bounds_u8 w0
  have b2 := bounds_u8 w2
  have b3 := bounds_u8 w3
  have b4 := bounds_u64 w4
  have h0 : 0 < w.heap.size := World.block_lt_of_cell? w _ (hT 0 (by decide))
  obtain ⟨S, rfl⟩ := Int.eq_ofNat_of_zero_le b4.1
  have hS : S < 2 ^ 64 := by have := b4.2; omega
  rcases w1 with ⟨rfl, rfl, rfl, rfl⟩ | ⟨x, rfl, hl, hm, hz, hcell, hwz⟩
  · exact walk a0 a2 a3 none 0 0 0 0 [] S w ⟨by omega, by omega⟩ ⟨by omega, by omega⟩ ⟨by omega, by omega⟩ hS (by omega) h0 (fun h => by omega) (fun i hi => by omega) (fun i => by simp) hT h0
  · unfold maxLen at hm
    by_cases hl0 : len1 = 0
    · subst hl0
      exact walk a0 a2 a3 (some x) 0 0 0 cap1 [] S w ⟨by omega, by omega⟩ ⟨by omega, by omega⟩ ⟨by omega, by omega⟩ hS (by omega) h0 (fun h => by omega) (fun i hi => by omega) (fun i => by simp) hT h0
    · obtain ⟨b, off, spot⟩ := x
      have hspot : spot = none := by simpa [Addr.add] using World.cell?_spot (hcell 0 (by omega))
      subst hspot
      have hcell' : ∀ j, j < len1 → w.cell? ⟨b, off + j, none⟩ = some (.int .u8 (z1.getD j 0)) := fun j hj => by rw [← add_plain]; exact hcell j (by omega)
      exact walk a0 a2 a3 (some ⟨b, off, none⟩) b off len1 cap1 z1 S w ⟨by omega, by omega⟩ ⟨by omega, by omega⟩ ⟨by omega, by omega⟩ hS (by omega) (World.block_lt_of_cell? w _ (hcell' 0 (by omega))) (fun _ => rfl) hcell' (zs_range hwz) hT h0

set_option maxRecDepth 100000 in
theorem lifted (os : Os) (started : os.Started) (H : Type) (enc : TypeId × Value → H) :
    ReturnsInHanded {} Ybad.checked os 4 .any (fun w args => (Rows.lawS3294BImageSpec.pre enc Ybad.prog Ybad.f4 [] false w args ∧ laidMetH Ybad.prog Rows.lawS3294BImageRow.laid w) ∧ sizedMet enc Ybad.prog Ybad.f4 (OpenSpec.ofChange Rows.lawS3294BImageSpec) false w args)
      (Rows.lawS3294BImageSpec.post enc Ybad.prog Ybad.f4 false true false false) := by
  refine returnsInHanded_of_change_and (C := Ybad.checked) (X := fun w _ => laidMetH Ybad.prog Rows.lawS3294BImageRow.laid w) (fun _ _ _ hh h => h.of_heap hh) own started (by kernel_rfl) Ybad.func4
    (ChangeSpec.witness_shaped (enc := enc) (C := Ybad.checked) (os := os) (X := fun w _ => laidMetH Ybad.prog Rows.lawS3294BImageRow.laid w) false (World.doorLaid Ybad.prog 14 os) #[.int .u8 0, .slice none 0 0, .int .u8 0, .int .u8 0, .int .u64 0] 8 rfl (World.shaped_of_RefB (by kernel_rfl) (by kernel_rfl)) (by kernel_rfl) (by kernel_rfl) (by kernel_rfl) (door_met os _)) ?_
  intro W base args ds gs before hval0 hW _ _ hL _
  have hval : ∀ (j : Nat) t v, Ybad.f4.params[j]? = some t → args[j]? = some v → Value.okWide Ybad.prog W .any base t v := hval0
  have hW' := hW
  obtain ⟨p, q, hA0, hV, rfl, hfz, hnd⟩ := hW
  have hA : DataW.TrodAll enc Ybad.prog W 0 (fun _ => true) true Ybad.f4.params.toList args.toList ds p := hA0
  rw [Ybad.params4] at hA hval
  obtain ⟨v0, vs0, d0, ds0, p0, q0, hargs, rfl, rfl, h0, r0⟩ := trodAll_cons hA
  obtain ⟨v1, vs1, d1, ds1, p1, q1, rfl, rfl, rfl, h1, r1⟩ := trodAll_cons r0
  obtain ⟨v2, vs2, d2, ds2, p2, q2, rfl, rfl, rfl, h2, r2⟩ := trodAll_cons r1
  obtain ⟨v3, vs3, d3, ds3, p3, q3, rfl, rfl, rfl, h3, r3⟩ := trodAll_cons r2
  obtain ⟨v4, vs4, d4, ds4, p4, q4, rfl, rfl, rfl, h4, r4⟩ := trodAll_cons r3
  obtain ⟨rfl, rfl, rfl⟩ := trodAll_nil r4
  obtain rfl : args = #[v0, v1, v2, v3, v4] := by cases args; simp_all
  obtain ⟨rfl, rfl⟩ := trodVars_none hV
  obtain ⟨a0, rfl, rfl, rfl, w0⟩ := open_int Ybad.underlying5 (hval 0 5 v0 rfl rfl) h0
  obtain ⟨a1, len1, cap1, rfl⟩ := okWide_slice Ybad.underlying22 (hval 1 22 v1 rfl rfl)
  have k1 := h1
  have lt1 : ∀ x ∈ p1, x.block < W.heap.size := by obtain ⟨m, hm⟩ := k1; exact DataW.trod_lt m _ _ _ hm
  obtain ⟨z1, w1⟩ : ∃ zs, IsRow .u8 W a1 len1 cap1 zs := by
    obtain ⟨fuel, hf⟩ := h1
    rcases open_ints Ybad.underlying22 Ybad.underlying5 (by kernel_rfl) hf with ⟨hcs, _⟩ | ⟨x, l, c, zs, hcs, _, hl, hm, hz, _, hcell, hwz⟩
    · simp [Value.cells] at hcs
      obtain ⟨rfl, rfl, rfl⟩ := hcs
      exact ⟨[], .inl ⟨rfl, rfl, rfl, rfl⟩⟩
    · simp [Value.cells] at hcs
      obtain ⟨rfl, rfl, rfl⟩ := hcs
      exact ⟨zs, .inr ⟨_, rfl, hl, hm, by simpa using hz, hcell, hwz⟩⟩
  obtain ⟨a2, rfl, rfl, rfl, w2⟩ := open_int Ybad.underlying5 (hval 2 5 v2 rfl rfl) h2
  obtain ⟨a3, rfl, rfl, rfl, w3⟩ := open_int Ybad.underlying5 (hval 3 5 v3 rfl rfl) h3
  obtain ⟨a4, rfl, rfl, rfl, w4⟩ := open_int Ybad.underlying27 (hval 4 27 v4 rfl rfl) h4
  clear hA0 hval0
  refine (walk' a0 a1 len1 cap1 z1 a2 a3 a4 W w0 w1 w2 w3 w4 (of_laid hL)).mono fun e W' ⟨he, bel⟩ => ?_
  subst he
  exact ⟨_, rfl, _, _, _, [], _, [], hW', trodAll_mk1 (shut_bool Ybad.underlying4 _), (trodAll_cons_mk (shut_int Ybad.underlying5 w0) (trodAll_cons_mk (Below.trod laidOut (by kernel_rfl) (of_decide_eq_true (by kernel_rfl)) k1 bel lt1) (trodAll_cons_mk (shut_int Ybad.underlying5 w2) (trodAll_cons_mk (shut_int Ybad.underlying5 w3) (trodAll_cons_mk (shut_int Ybad.underlying27 w4) trodAll_mk0))))), rfl, bel.frame _, fun h => by cases h⟩

theorem over : Rows.LawS3294BImageSaid :=
  OpenClaim.holds_of_wide 4 Ybad.f4 rfl rfl rfl rfl rfl rfl rfl ⟨rfl, rfl, rfl, rfl, rfl⟩ rfl rfl rfl rfl rfl (by kernel_rfl) Ybad.func4 (by kernel_rfl)
    (of_decide_eq_true (by kernel_rfl)) (by unfold Func.isWrapper; first | (rw [if_pos (by decide +kernel)]; kernel_rfl) | (rw [if_neg (by decide +kernel)]; exact ⟨rfl, rfl⟩))
    (fun os started H enc _ => lifted os started H enc)
#print axioms over

theorem params_plain : ∀ (j : Nat) (t : TypeId), Ybad.f4.params[j]? = some t → Ybad.prog.wantsStandIn t = false := by
  intro j t ht
  rw [Ybad.params4] at ht
  have h : t = 5 ∨ t = 22 ∨ t = 27 := by
    rcases j with _ | _ | _ | _ | _ | j
    · exact .inl (by simpa using ht.symm)
    · exact .inr (.inl (by simpa using ht.symm))
    · exact .inl (by simpa using ht.symm)
    · exact .inl (by simpa using ht.symm)
    · exact .inr (.inr (by simpa using ht.symm))
    · simp at ht
  rcases h with rfl | rfl | rfl
  · exact (show Ybad.prog.wantsStandIn 5 = false by kernel_rfl)
  · exact (show Ybad.prog.wantsStandIn 22 = false by kernel_rfl)
  · exact (show Ybad.prog.wantsStandIn 27 = false by kernel_rfl)

/-- ████ THE TIED CARD ████ -/
theorem card : Rows.LawS3294BImageCardSaid :=
  Claim7.holds_tied_plain_at .later [] [.data] true Rows.lawS3294BImageCard.stood.harness false
    over (fun _ h => by cases h) (by kernel_rfl) (fun _ h => by cases h) lawS3294BImage_row_tie rfl ⟨rfl, rfl⟩ (by kernel_rfl) rfl
    (fun f fn hf hfn => by
      obtain rfl : f = 4 := Option.some.inj ((show Ybad.prog.funcNamed Rows.lawS3294BImageRow.func = some 4 by kernel_rfl).symm.trans hf) |>.symm
      obtain rfl : fn = Ybad.f4 := (Option.some.inj (Ybad.func4.symm.trans hfn)).symm
      exact ⟨by kernel_rfl, params_plain⟩)
    (by kernel_rfl)
#print axioms card
end Go.Proofs.YbulkbpesDoor.lawS3294BImage

namespace Go.Proofs.YbulkbpesDoor
theorem lawS3294BImage_card_holds : Rows.LawS3294BImageCardSaid := lawS3294BImage.card
#print axioms lawS3294BImage_card_holds
end Go.Proofs.YbulkbpesDoor
