import Derived.Test.YbulkbpfuFmtFrame
namespace Go.Proofs.YbulkbpfuFmt
open Go.ChangeShapes Go.WideShapes Go.ChangeAt Go.RowKit
set_option linter.unusedVariables false

set_option maxRecDepth 100000 in
set_option maxHeartbeats 4000000 in
/-- readFrame where the stream's end cuts the frame short. -/
theorem readFrame_none (R B F S : Nat) (stv : Value) (te : TypeId) (ev : Value) (bs p more raw : List Int) (base : Nat) (ins : Bool) (last : Int) (t : Int) (n : Nat) (ht : TL t n) (w : World) (h : Rdr w R B F S stv te ev bs p base ins last) (hlen : raw.length = 7 + n) (hp : p ++ more = esc raw) (hmore : more ≠ []) :
    Calls Ybaf.prog 19 #[.pointer (some ⟨R, 0, none⟩), .int .u8 t] w fun e w' => e = .returned (.tuple #[.agg #[.int .u8 0, .int .u64 0, .int .u8 0, .slice none 0 0], .bool false, .iface te ev]) ∧ (∃ ins' last', Rdr w' R B F S stv te ev bs [] base ins' last') ∧ Kp (All R B F S) w w' := by
  have HH := hide h
  have HP := hide hp
  have HM := hide hmore
  have HDL := hide (dl_any t n ht)
  have hn : n ≤ 14 := by rcases ht with ⟨_, rfl⟩ | ⟨_, rfl⟩ | ⟨_, rfl⟩ <;> omega
  have hn2 : 2 ≤ n := by rcases ht with ⟨_, rfl⟩ | ⟨_, rfl⟩ | ⟨_, rfl⟩ <;> omega
  clear h ht hp hmore
  have hw : IntKind.i64.wrap (7 + (n : Int)) = 7 + (n : Int) := by rw [IntKind.wrap_i64]; omega
  have hb0 : (0 : Int) ≤ 7 + (n : Int) := by omega
  have hb1 : 7 + (n : Int) ≤ 21 := by omega
  have hb2 : (7 + (n : Int)).toNat = 7 + n := by omega
  go_enter Ybaf.func19, Ybaf.ntmps19
  go_wp2
  go_quiet ((go_at_call 27; exact Calls.quiet_of_same (HDL.out _)))
  go_wp2
  have HR0 := hide ((HH.out.rdrF raw).kept ((Kp.refl (fun _ => False) w).alloc (.cells #[.int .u8 0, .int .u64 0, .int .u8 0, .slice none 0 0] 40)) (fun _ h => h.elim))
  have hRw : R < w.heap.size := by obtain ⟨f, hf, _⟩ := HH.out.row; exact hf.lt
  clear hw hb0 hb1 hb2
  go_loopg [8, 9, 10, 23] (7 + n) (fun k s8 s9 s10 s23 wr => ∃ (j : Nat) (q : List Int), j + k = 7 + n ∧ s23 = .int .i64 j ∧ (∃ ins' last', RdrF wr R B F S stv te ev bs q base ins' last' raw j) ∧ q ++ more = esc (raw.drop j) ∧ Is wr w.heap.size 40 #[.int .u8 0, .int .u64 0, .int .u8 0, .slice none 0 0] ∧ Kp (All R B F S) w wr)
  case atStart => exact ⟨0, p, by omega, rfl, ⟨ins, last, ⟨HR0.out.buf.heapEq rfl, HR0.out.row, HR0.out.hFR⟩⟩, HP.out, Is.new w 40 _, ((Kp.refl _ w).alloc _).drewN _⟩
  case round =>
    obtain ⟨j, q, hjk, rfl, ⟨ins', last', hR⟩, hq, hA, hK⟩ := hrel
    have hlt : j < 7 + n := by
      apply Nat.lt_of_not_le
      intro hle
      rw [List.drop_eq_nil_of_le (by omega)] at hq
      have := List.append_eq_nil_iff.1 hq
      exact HM.out this.2
    obtain ⟨b, hb⟩ : ∃ b, raw.getD j 0 = b := ⟨_, rfl⟩
    have hdrop : raw.drop j = b :: raw.drop (j + 1) := by
      rw [List.drop_eq_getElem_cons (by omega)]
      congr 1
      rw [← hb]; simp [List.getD, show j < raw.length by omega]
    rw [hdrop] at hq
    have d0 := hR.cells.1
    have HKw := hide hK
    have HB := hide hb
    have HJK := hide hjk
    have HA := hide hA
    have hord := And.intro hR.hFR (And.intro hR.buf.hSB hR.buf.hBF)
    clear hK hdrop hb hjk hA
    cases q with
    | nil =>
      have HR := hide hR
      clear hR hq
      go_wp2_with fail
      refine (readByte_none (by exact HR.out.buf)).mono ?_
      rintro e w1 ⟨rfl, hb1, hk1⟩
      have HR1 := hide (HR.out.lift hk1 hb1)
      have HK1 := hide (HKw.out.trans (hk1.mono (fun k h => Or.inr h)))
      have hA1 := hk1.is HA.out (by omega)
      have a0 := hA1.cell 0
      have a1 := hA1.cell 1
      have a2 := hA1.cell 2
      have a3 := hA1.cell 3
      have q0 := hA1.frozen 0
      have q1 := hA1.frozen 1
      have q2 := hA1.frozen 2
      have q3 := hA1.frozen 3
      simp at a0 a1 a2 a3
      clear hb1 hk1 d0 hA1
      go_wp2
      refine bodyPost_ret (v := .tuple #[.agg #[.int .u8 0, .int .u64 0, .int .u8 0, .slice none 0 0], .bool false, .iface te ev]) (by simp [results, Ybaf.results19, go_sem, a0, a1, a2, a3]) rfl ⟨rfl, ⟨ins', last', ?_⟩, ?_⟩
      · exact (RdrF.kept (X := fun k => k = w.heap.size) HR1.out ((((((Kp.refl (fun k => k = w.heap.size) _).set (p := ⟨w.heap.size, 0, none⟩) (fun _ => rfl) _).set (p := ⟨w.heap.size, 1, none⟩) (fun _ => rfl) _).set (p := ⟨w.heap.size, 2, none⟩) (fun _ => rfl) _).set (p := ⟨w.heap.size, 3, none⟩) (fun _ => rfl) _)) (fun i h => by omega)).rdr
      · exact ((((HK1.out.set (p := ⟨w.heap.size, 0, none⟩) (fun h => absurd h (Nat.lt_irrefl _)) _).set (p := ⟨w.heap.size, 1, none⟩) (fun h => absurd h (Nat.lt_irrefl _)) _).set (p := ⟨w.heap.size, 2, none⟩) (fun h => absurd h (Nat.lt_irrefl _)) _).set (p := ⟨w.heap.size, 3, none⟩) (fun h => absurd h (Nat.lt_irrefl _)) _)
    | cons x q =>
      by_cases h26 : b = 26
      · subst h26
        obtain ⟨rfl, hq2⟩ : x = 26 ∧ q ++ more = 26 :: esc (raw.drop (j + 1)) := by simpa [esc] using hq
        clear hq
        cases q with
        | nil =>
          have HR := hide hR
          clear hR hq2
          go_wp2_with fail
          refine (readByte_some (by exact HR.out.buf)).mono ?_
          rintro e w0 ⟨rfl, hb0, hk0⟩
          have HR0 := hide (HR.out.lift hk0 hb0)
          have e0 := HR0.out.cells.1
          have HK0 := hide (HKw.out.trans (hk0.mono (fun k h => Or.inr h)))
          have HA0 := hide (hk0.is HA.out (by omega))
          clear hb0 hk0 d0
          go_wp2_with fail
          refine (readByte_none (by exact HR0.out.buf)).mono ?_
          rintro e w1 ⟨rfl, hb1, hk1⟩
          have HR1 := hide (HR0.out.lift hk1 hb1)
          have HK1 := hide (HK0.out.trans (hk1.mono (fun k h => Or.inr h)))
          have hA1 := hk1.is HA0.out (by omega)
          have a0 := hA1.cell 0
          have a1 := hA1.cell 1
          have a2 := hA1.cell 2
          have a3 := hA1.cell 3
          have q0 := hA1.frozen 0
          have q1 := hA1.frozen 1
          have q2 := hA1.frozen 2
          have q3 := hA1.frozen 3
          simp at a0 a1 a2 a3
          clear hb1 hk1 e0 hA1
          go_wp2
          refine bodyPost_ret (v := .tuple #[.agg #[.int .u8 0, .int .u64 0, .int .u8 0, .slice none 0 0], .bool false, .iface te ev]) (by simp [results, Ybaf.results19, go_sem, a0, a1, a2, a3]) rfl ⟨rfl, ⟨ins', last', ?_⟩, ?_⟩
          · exact (RdrF.kept (X := fun k => k = w.heap.size) HR1.out ((((((Kp.refl (fun k => k = w.heap.size) _).set (p := ⟨w.heap.size, 0, none⟩) (fun _ => rfl) _).set (p := ⟨w.heap.size, 1, none⟩) (fun _ => rfl) _).set (p := ⟨w.heap.size, 2, none⟩) (fun _ => rfl) _).set (p := ⟨w.heap.size, 3, none⟩) (fun _ => rfl) _)) (fun i h => by omega)).rdr
          · exact ((((HK1.out.set (p := ⟨w.heap.size, 0, none⟩) (fun h => absurd h (Nat.lt_irrefl _)) _).set (p := ⟨w.heap.size, 1, none⟩) (fun h => absurd h (Nat.lt_irrefl _)) _).set (p := ⟨w.heap.size, 2, none⟩) (fun h => absurd h (Nat.lt_irrefl _)) _).set (p := ⟨w.heap.size, 3, none⟩) (fun h => absurd h (Nat.lt_irrefl _)) _)
        | cons y q =>
          obtain ⟨rfl, hq3⟩ : y = 26 ∧ q ++ more = esc (raw.drop (j + 1)) := by simpa using hq2
          have HQ := hide hq3
          have HR := hide hR
          clear hR hq2 hq3
          go_wp2_with fail
          refine (readByte_some (by exact HR.out.buf)).mono ?_
          rintro e w1 ⟨rfl, hb1, hk1⟩
          have HR1 := hide (HR.out.lift hk1 hb1)
          have e0 := HR1.out.cells.1
          have HK1 := hide (HKw.out.trans (hk1.mono (fun k h => Or.inr h)))
          have HA1 := hide (hk1.is HA.out (by omega))
          clear hb1 hk1 d0
          go_wp2_with fail
          refine (readByte_some (by exact HR1.out.buf)).mono ?_
          rintro e w2 ⟨rfl, hb2, hk2⟩
          have HR2 := hide (HR1.out.lift hk2 hb2)
          obtain ⟨-, -, i2, -, g2, -, hex, hfz⟩ := HR2.out.cells
          obtain ⟨v4, i4⟩ := hex j (by omega)
          have g4 := hfz (4 + j)
          have HK2 := hide (HK1.out.trans (hk2.mono (fun k h => Or.inr h)))
          have HA2 := hide (hk2.is HA1.out (by omega))
          clear hb2 hk2 e0 hex hfz
          go_wp2
          go_roundg (7 + n - (j + 1))
          case measure => have := HJK.out; omega
          case rel =>
            have hR3 := (HR2.out.set.2.1 26).set.2.2
            rw [HB.out] at hR3
            exact ⟨j + 1, q, by omega, by go_num, ⟨ins', 26, hR3⟩, HQ.out, (HA2.out.other (by omega) _ _).other (by omega) _ _, (HK2.out.set (p := ⟨R, 2, none⟩) (fun _ => Or.inl rfl) _).set (p := ⟨R, 4 + j, none⟩) (fun _ => Or.inl rfl) _⟩
      · have hne : (b == 26) = false := beq_eq_false_iff_ne.2 h26
        obtain ⟨rfl, hq2⟩ : x = b ∧ q ++ more = esc (raw.drop (j + 1)) := by simpa [esc, h26] using hq
        have HQ := hide hq2
        have HR := hide hR
        clear hR h26 hq2 hq
        go_wp2_with fail
        refine (readByte_some (by exact HR.out.buf)).mono ?_
        rintro e w2 ⟨rfl, hb2, hk2⟩
        have HR2 := hide (HR.out.lift hk2 hb2)
        obtain ⟨-, -, i2, -, g2, -, hex, hfz⟩ := HR2.out.cells
        obtain ⟨v4, i4⟩ := hex j (by omega)
        have g4 := hfz (4 + j)
        have HK2 := hide (HKw.out.trans (hk2.mono (fun k h => Or.inr h)))
        have HA2 := hide (hk2.is HA.out (by omega))
        clear hb2 hk2 d0 hex hfz
        go_wp2
        go_roundg (7 + n - (j + 1))
        case measure => have := HJK.out; omega
        case rel =>
          have hR3 := (HR2.out.set.2.1 x).set.2.2
          rw [HB.out] at hR3
          exact ⟨j + 1, q, by omega, by go_num, ⟨ins', x, hR3⟩, HQ.out, (HA2.out.other (by omega) _ _).other (by omega) _ _, (HK2.out.set (p := ⟨R, 2, none⟩) (fun _ => Or.inl rfl) _).set (p := ⟨R, 4 + j, none⟩) (fun _ => Or.inl rfl) _⟩
end Go.Proofs.YbulkbpfuFmt
