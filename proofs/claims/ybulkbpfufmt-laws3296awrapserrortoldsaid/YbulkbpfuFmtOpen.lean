import Derived.Test.YbulkbpfuFmtTrip
import Derived.Test.YbulkbpfuFmtTie
import Derived.Test.YbulkbpfuFmtCards
import Derived.Lib.SmallJoins
import Derived.Deep.Slices
import Derived.LaidMore
import Derived.Stop.LaidErr
import Derived.Stop.JoinedTold
import Derived.OpenShut
import Derived.ShutString
namespace Go.Proofs.YbulkbpfuFmt
open Go.ChangeShapes Go.WideShapes Go.ChangeAt Go.RowKit
set_option linter.unusedVariables false

theorem Ybaf.cells5' : Ybaf.prog.cellsOf 5 = 1 := by kernel_rfl
theorem Ybaf.cells22' : Ybaf.prog.cellsOf 22 = 1 := by kernel_rfl
theorem Ybaf.cells24' : Ybaf.prog.cellsOf 24 = 1 := by kernel_rfl
theorem Ybaf.cells26' : Ybaf.prog.cellsOf 26 = 4 := by kernel_rfl

/-- A slice of integers that came in: nil; or 'len' cells (at most 'cap') behind an address, the numbers 'zs'. -/
theorem row_of_trod {H : Type} {enc : TypeId × Value → H} {W : World} {fuel : Nat} {a : Option Addr} {len cap : Nat} {x : DataW H × List MemPlace}
    (h : DataW.trod enc Ybaf.prog W 0 (fun _ => true) true fuel 22 [.slice a len cap] = some x) :
    ∃ (b o : Nat) (zs : List Int), len ≤ 9223372036854775807 ∧ (0 < len → a = some ⟨b, o, none⟩ ∧ b < W.heap.size) ∧ len ≤ zs.length ∧ (∀ j, j < len → W.cell? ⟨b, o + j, none⟩ = some (.int .u8 (zs.getD j 0))) ∧ ∀ j, 0 ≤ zs.getD j 0 ∧ zs.getD j 0 ≤ 255 := by
  rcases open_ints Ybaf.underlying22 Ybaf.underlying5 Ybaf.cells5' h with ⟨hcs, _⟩ | ⟨x, l, c, zs, hcs, _, hl, hm, hz, _, hcell, hwz⟩
  · simp at hcs
    obtain ⟨rfl, rfl, rfl⟩ := hcs
    exact ⟨0, 0, [], by omega, fun h => by omega, by simp, fun j hj => by omega, fun j => by simp⟩
  · simp at hcs hz
    obtain ⟨rfl, rfl, rfl⟩ := hcs
    have hby : ∀ j, 0 ≤ zs.getD j 0 ∧ zs.getD j 0 ≤ 255 := fun i => by
      by_cases h : i < zs.length
      · have := bounds_u8 (hwz _ (List.getElem_mem h))
        simp [List.getD, h]; omega
      · simp [List.getD, List.getElem?_eq_none (by omega : zs.length ≤ i)]
    unfold maxLen at hm
    by_cases hl0 : len = 0
    · subst hl0
      exact ⟨0, 0, zs, by omega, fun h => by omega, by omega, fun j hj => by omega, hby⟩
    · obtain ⟨b, off, spot⟩ := x
      have hspot : spot = none := by simpa [Addr.add] using World.cell?_spot (hcell 0 (by omega))
      subst hspot
      have hcell' : ∀ j, j < len → W.cell? ⟨b, off + j, none⟩ = some (.int .u8 (zs.getD j 0)) := fun j hj => by rw [← add_plain]; exact hcell j (by omega)
      exact ⟨b, off, zs, by omega, fun _ => ⟨rfl, World.block_lt_of_cell? W _ (hcell' 0 (by omega))⟩, by omega, hcell', hby⟩

theorem list4 {α : Type} {l : List α} (h : l.length = 4) : ∃ a b c d, l = [a, b, c, d] := by
  match l, h with
  | [a, b, c, d], _ => exact ⟨a, b, c, d, rfl⟩
/-- A frame that came in, of its four cells. -/
theorem fr_of_trod {H : Type} {enc : TypeId × Value → H} {W : World} {fuel : Nat} {cs : List Value} {x : DataW H × List MemPlace}
    (h : DataW.trod enc Ybaf.prog W 0 (fun _ => true) true fuel 26 cs = some x) :
    ∃ f : Fr, FrOk W f ∧ cs = [.int .u8 f.K, .int .u64 f.C, .int .u8 f.G, .slice f.ao f.dl f.dc] := by
  obtain ⟨y0, y1, y2, y3, n, _, hl, h0, h1, h2, h3⟩ := Go.Joins.trod_struct4 Ybaf.underlying26 h
  rw [Ybaf.cells26'] at hl
  obtain ⟨c0, c1, c2, c3, rfl⟩ := list4 hl
  clear hl
  simp only [Ybaf.cells5', Ybaf.cells24', Ybaf.cells22', List.drop_zero, List.drop_succ_cons, List.take_succ_cons, List.take_zero] at h0 h1 h2 h3
  obtain ⟨k, hk, _, wk⟩ := DataW.trod_int Ybaf.underlying5 h0
  obtain ⟨c, hc, _, wc⟩ := DataW.trod_int Ybaf.underlying24 h1
  obtain ⟨g, hg, _, wg⟩ := DataW.trod_int Ybaf.underlying5 h2
  have h3' : ∃ a len cap, c3 = .slice a len cap := by
    rcases open_ints Ybaf.underlying22 Ybaf.underlying5 Ybaf.cells5' h3 with ⟨hcs, _⟩ | ⟨x, l, c, zs, hcs, _⟩
    · simp at hcs; exact ⟨_, _, _, hcs⟩
    · simp at hcs; exact ⟨_, _, _, hcs⟩
  obtain ⟨a, len, cap, rfl⟩ := h3'
  obtain ⟨b, o, zs, hln, hat, hzl, hcell, hby⟩ := row_of_trod h3
  simp at hk hc hg
  subst hk; subst hc; subst hg
  have bk := bounds_u8 wk
  have bg := bounds_u8 wg
  exact ⟨⟨k, c, g, a, b, o, len, cap, zs⟩, ⟨by show 0 ≤ k; omega, by show k ≤ 255; omega, by show 0 ≤ g; omega, by show g ≤ 255; omega, hln, hat, hcell, hby⟩, rfl⟩

instance : Inhabited Fr := ⟨⟨0, 0, 0, none, 0, 0, 0, 0, []⟩⟩

/-- The slice of frames that came in. -/
theorem frs_of_trod {H : Type} {enc : TypeId × Value → H} {W : World} {fuel : Nat} {a : Option Addr} {len cap : Nat} {x : DataW H × List MemPlace}
    (h : DataW.trod enc Ybaf.prog W 0 (fun _ => true) true fuel 23 [.slice a len cap] = some x) :
    ∃ (fb fo : Nat) (fr : Nat → Fr), (0 < len → a = some ⟨fb, fo, none⟩ ∧ fb < W.heap.size) ∧
      ∀ i, i < len → FrOk W (fr i) ∧ W.cell? ⟨fb, fo + i * 4, none⟩ = some (.int .u8 (fr i).K) ∧ W.cell? ⟨fb, fo + i * 4 + 1, none⟩ = some (.int .u64 (fr i).C) ∧ W.cell? ⟨fb, fo + i * 4 + 2, none⟩ = some (.int .u8 (fr i).G) ∧ W.cell? ⟨fb, fo + i * 4 + 3, none⟩ = some (.slice (fr i).ao (fr i).dl (fr i).dc) := by
  rcases Go.Deep.open_slice Ybaf.underlying23 h with ⟨hcs, _⟩ | ⟨x, l, c, m, n, D, Pl, hcs, _, hl, hm, hmm, _, hx⟩
  · simp at hcs
    obtain ⟨rfl, rfl, rfl⟩ := hcs
    exact ⟨0, 0, default, fun h => by omega, fun i hi => by omega⟩
  · simp at hcs hmm
    obtain ⟨rfl, rfl, rfl⟩ := hcs
    subst hmm
    by_cases hl0 : len = 0
    · subst hl0
      exact ⟨0, 0, default, fun h => by omega, fun i hi => by omega⟩
    rw [Ybaf.cells26'] at hx
    obtain ⟨fr, hfr⟩ := Go.Deep.choose_lt (α := Fr) (p := fun i f => FrOk W f ∧ ∀ j, j < 4 → W.cell? ((x.add (i * 4)).add j) = [Value.int .u8 f.K, .int .u64 f.C, .int .u8 f.G, .slice f.ao f.dl f.dc][j]?) (n := m) (fun i hi => by
      obtain ⟨cs', h1, h2⟩ := hx i hi
      obtain ⟨f, hf, rfl⟩ := fr_of_trod h2
      exact ⟨f, hf, (World.cells?_some h1).2.2⟩)
    obtain ⟨b, off, spot⟩ := x
    have hspot : spot = none := by
      have := (hfr 0 (by omega)).2 0 (by omega)
      simpa [Addr.add] using World.cell?_spot this
    subst hspot
    have e1 : ∀ i j, ((⟨b, off, none⟩ : Addr).add (i * 4)).add j = ⟨b, off + i * 4 + j, none⟩ := fun i j => by rw [add_plain, add_plain]
    refine ⟨b, off, fr, fun _ => ⟨rfl, ?_⟩, fun i hi => ?_⟩
    · have := (hfr 0 (by omega)).2 0 (by omega)
      rw [e1] at this
      exact World.block_lt_of_cell? W _ this
    · obtain ⟨h1, h2⟩ := hfr i (by omega)
      refine ⟨h1, ?_, ?_, ?_, ?_⟩
      · have := h2 0 (by omega); rw [e1] at this; simpa using this
      · have := h2 1 (by omega); rw [e1] at this; simpa using this
      · have := h2 2 (by omega); rw [e1] at this; simpa using this
      · have := h2 3 (by omega); rw [e1] at this; simpa using this

/-! ### what 'laid' says of io.EOF -/
def nmE : String := (Rows.lawS3296ARoundTripRow.laid.map (·.1)).headD ""
theorem gE : Ybaf.prog.globalNamed nmE = some 0 := by kernel_rfl
theorem star : "*" ++ "errors.errorString" = "*errors.errorString" := by decide
theorem nameE (u : TypeId) (h : Ybaf.prog.typeName? 3 u = some "*errors.errorString") : u = 88 :=
  typeName_ptr_named (nm := "errors.errorString") (by rw [star]; kernel_rfl) (by kernel_rfl) (by decide) u (by rw [star]; exact h)
end Go.Proofs.YbulkbpfuFmt
