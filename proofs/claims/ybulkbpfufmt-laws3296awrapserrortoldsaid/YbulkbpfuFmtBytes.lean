import Derived.Test.YbulkbpfuFmtByte
namespace Go.Proofs.YbulkbpfuFmt
open Go.ChangeShapes Go.WideShapes Go.ChangeAt Go.RowKit
set_option linter.unusedVariables false

/-- The blocks that reading writes. -/
abbrev Rds (B F S : Nat) : Nat → Prop := fun k => k = B ∨ k = F ∨ k = S

theorem own_at {w : World} {base : Nat} {stv : Value} {bs : List Int} (h : w.ownsRow base 5 1 stv bs.length (bs.map (Value.int .u8))) (hpos : 0 < bs.length) :
    ∃ g cap, stv = .slice (some ⟨g, 0, none⟩) bs.length cap ∧ bs.length ≤ cap ∧ ∀ j, j < bs.length → w.cell? ⟨g, j, none⟩ = some (.int .u8 (bs.getD j 0)) := by
  rcases h.2 with ⟨_, h0⟩ | ⟨g, cap, cur, rfl, hb, hgg, hle, rest⟩
  · omega
  · refine ⟨g, cap, rfl, hle, fun j hj => ?_⟩
    rw [h.cellAt j (by omega)]
    simp [List.getD, hj]

theorem own_slice {w : World} {base : Nat} {stv : Value} {n : Nat} {xs : List Value} (h : w.ownsRow base 5 1 stv n xs) : ∃ ao cap, stv = .slice ao n cap := by
  rcases h.2 with ⟨rfl, rfl⟩ | ⟨g, cap, cur, rfl, _⟩
  · exact ⟨_, _, rfl⟩
  · exact ⟨_, _, rfl⟩

theorem readByte_some {w : World} {B F S : Nat} {stv : Value} {te : TypeId} {ev : Value} {bs : List Int} {b : Int} {rest : List Int} {base : Nat} (h : Buf w B F S stv te ev bs (b :: rest) base) :
    Calls Ybaf.prog 26 #[.pointer (some ⟨B, 0, none⟩)] w fun e w' => e = .returned (.tuple #[.int .u8 b, .nilIface]) ∧ Buf w' B F S stv te ev bs rest base ∧ Kp (Rds B F S) w w' := by
  obtain ⟨⟨r, q, i, bb, lb, lr, f, hB, hF, hS, hq, hq3, hi, hf, hr⟩, own, lt, hSB, hBF, hlen⟩ := h
  cases bb with
  | cons b' bb =>
    simp at hr
    obtain ⟨rfl, rfl⟩ := hr
    simp at hq
    refine (rb_core B F S r q b lb lr f w hB hF (by omega) hq3 (by have := hf 0 (by simp); simpa using this) (by omega)).mono ?_
    rintro e w' ⟨rfl, lb', lr', hB', hK⟩
    refine ⟨rfl, ⟨⟨r + 1, q, i, bb, lb', lr', f, by simpa using hB', hK.rowIs hF (by omega), hK.is hS (by omega), by omega, hq3, hi, fun j hj => ?_, rfl⟩, hK.row own (fun g hg => by have := lt g hg; omega), lt, hSB, hBF, hlen⟩, hK.mono (fun k h => Or.inl h)⟩
    have := hf (j + 1) (by simpa using hj)
    rw [show r + 1 + j = r + (j + 1) from by omega, this]
    simp
  | nil =>
    simp at hr hq
    subst hq
    have hin : i < bs.length := by
      apply Nat.lt_of_not_le
      intro hle
      rw [List.drop_eq_nil_of_le hle] at hr
      cases hr
    have hb : bs.getD i 0 = b := by
      have := congrArg List.head? hr
      rw [List.head?_drop] at this
      simp [List.getD, ← this]
    have hrest : rest = bs.drop (i + 1) := by
      have := congrArg List.tail hr
      simpa [List.tail_drop] using this
    obtain ⟨g, cap, rfl, hnc, hcell⟩ := own_at own (by omega)
    have hgS : g < S := lt g rfl
    obtain ⟨m, hm, hm0, hm3⟩ : ∃ m, ((3 < bs.length - i ∧ m = 3) ∨ (bs.length - i ≤ 3 ∧ m = bs.length - i)) ∧ 0 < m ∧ m ≤ 3 := by
      by_cases h3 : 3 < bs.length - i
      · exact ⟨3, .inl ⟨h3, rfl⟩, by omega, by omega⟩
      · exact ⟨bs.length - i, .inr ⟨by omega, rfl⟩, by omega, by omega⟩
    refine (rb_some B F S g bs.length cap i m (.iface te ev) lb lr bs f q w hB hq3 hlen hnc hS hF hin hm hgS hSB hBF hm0 hm3 hcell).mono ?_
    rintro e w' ⟨rfl, lb', lr', hB', ⟨f', hF', hf'⟩, hS', hK⟩
    rw [hb]
    refine ⟨rfl, ⟨⟨1, m, i + m, (bs.drop (i + 1)).take (m - 1), lb', lr', f', by simpa using hB', hF', by simpa using hS', ?_, hm3, by omega, fun j hj => ?_, ?_⟩, hK.row own (fun k hk => by have := lt k hk; omega), lt, hSB, hBF, hlen⟩, hK⟩
    · simp; omega
    · simp at hj
      rw [hf' (1 + j) (by omega)]
      have hj1 : j < m - 1 := by omega
      simp [List.getD, hj1, show i + (1 + j) = i + 1 + j from by omega]
    · have e : bs.drop (i + m) = (bs.drop (i + 1)).drop (m - 1) := by rw [List.drop_drop]; congr 1; omega
      rw [hrest, e]
      exact (List.take_append_drop _ _).symm

theorem readByte_none {w : World} {B F S : Nat} {stv : Value} {te : TypeId} {ev : Value} {bs : List Int} {base : Nat} (h : Buf w B F S stv te ev bs [] base) :
    Calls Ybaf.prog 26 #[.pointer (some ⟨B, 0, none⟩)] w fun e w' => e = .returned (.tuple #[.int .u8 0, .iface te ev]) ∧ Buf w' B F S stv te ev bs [] base ∧ Kp (Rds B F S) w w' := by
  obtain ⟨⟨r, q, i, bb, lb, lr, f, hB, hF, hS, hq, hq3, hi, hf, hr⟩, own, lt, hSB, hBF, hlen⟩ := h
  have hbb : bb = [] ∧ bs.drop i = [] := by
    cases bb <;> simp at hr ⊢
    exact hr
  obtain ⟨rfl, hd⟩ := hbb
  have hd' := hd
  rw [List.drop_eq_nil_iff] at hd
  simp at hq
  subst hq
  obtain ⟨ao, cap, rfl⟩ := own_slice own
  refine (rb_none B F S bs.length cap i ao te ev lb lr q w hB hq3 hlen hS hd (by omega) hSB).mono ?_
  rintro e w' ⟨rfl, hB', hK⟩
  exact ⟨rfl, ⟨⟨0, 0, i, [], lb, _, f, hB', hK.rowIs hF (by omega), hK.is hS (by omega), rfl, by omega, hi, fun j hj => by simp at hj, by rw [hd']; rfl⟩, hK.row own (fun g hg => by have := lt g hg; omega), lt, hSB, hBF, hlen⟩, hK.mono (fun k h => Or.inl h)⟩
end Go.Proofs.YbulkbpfuFmt
