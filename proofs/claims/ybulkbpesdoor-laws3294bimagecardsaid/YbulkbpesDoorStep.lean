import Derived.Test.YbulkbpesDoorModel
namespace Go.Proofs.YbulkbpesDoor
open Go.ChangeShapes Go.WideShapes Go.ChangeAt Go.RowKit
set_option linter.unusedVariables false

theorem and_pred (wd : Nat) (h : wd < 2 ^ 64) (h1 : 1 ≤ wd) : bits BinOp.and IntKind.u64 (wd : Int) ((wd : Int) - 1) = ((wd &&& (wd - 1) : Nat) : Int) := by
  rw [show ((wd : Int) - 1) = ((wd - 1 : Nat) : Int) by omega, bits_and_u64_nat wd (wd - 1) h (by omega)]

set_option maxHeartbeats 2000000 in
theorem step_any (N M P l g T f x : Nat) (v : Nat → Nat) (S : Nat) (w : World) (hN : N ≤ 63) (hl : l ≤ 2) (hP : (l : Int) * (N : Int) = P) (hP1 : ((l : Int) + 1) * (N : Int) = (P : Int) + N) (hPM : P + N ≤ M) (hM : M ≤ 189) (hv : ∀ j, v j ≤ N) (hS : S < 2 ^ 64) (hr : Ready w N M g T f x v S 0)
    (hT : TabAt w) (hx0 : 0 ≠ x) :
    Calls Ybad.prog 9 #[.pointer (some ⟨T, 0, none⟩), .slice (some ⟨f, 0, none⟩) 1 1, .slice (some ⟨x, 0, none⟩) 1 1, .int .i32 l] w fun e w' =>
      e = .returned (.tuple #[]) ∧ w'.cell? ⟨x, 0, none⟩ = some (.int .u64 (Plain.gath (tgt N P v) S 64)) ∧ w.grownBy w' (some x) := by
  obtain ⟨row, c0, c3, cf, cx, fx, gx, Tx, fx'⟩ := hr
  have HT : Hid _ := hT
  clear hT
  have tab : ∀ {wr : World}, w.grownBy wr (some x) → TabAt wr := fun hg j hj => hg.cell (HT.out j hj) (by simpa using hx0)
  have Htab : Hid _ := @tab
  clear tab
  have hpart : (∃ h : P = M, N ≤ 0) ∨ ¬ M = P := by
    by_cases h : M = P
    · exact .inl ⟨h.symm, by omega⟩
    · exact .inr h
  rcases hpart with ⟨rfl, hN0⟩ | hPe
  all_goals
    go_enter Ybad.func9, Ybad.ntmps9
    go_wp2
    go_quiet (fail)
    go_wp2
    try rw [show P + N - P = N from by omega]
    refine wp_loop_rounds 2 ?_
    rw [rounds_succ]
    go_wp2
    go_loopw [10, 11, 12] (fun word r q wr => ∃ k : Nat, k ≤ 64 ∧ word = .int .u64 (Plain.hi S k) ∧ wr.cell? ⟨x, 0, none⟩ = some (.int .u64 (Plain.gath (tgt N P v) S k)) ∧ wr.frozen? ⟨x, 0, none⟩ = false ∧ w.grownBy wr (some x)) (fun word _ _ _ => (intOf word).toNat)
    case atStart => exact ⟨0, by omega, by rw [Plain.hi_zero], cx, fx, ⟨rfl, rfl, rfl, Nat.le_refl _, fun _ _ _ => rfl⟩⟩
    case round =>
      obtain ⟨k, hk, rfl, hx, hf, hg⟩ := hrel
      have d0 := hg.cell c0 (by simpa using Tx)
      have d3 := hg.cell c3 (by simpa using Tx)
      clear c0 c3 cf cx fx
      by_cases hz : Plain.hi S k = 0
      · have hd := Plain.done (tgt N P v) S k hk hz
        rw [← hd] at hx
        rw [hz]
        clear hd hz
        go_wp2
        rw [rounds_succ]
        go_wp2
        go_end0
        exact ⟨rfl, hx, hg⟩
      · obtain ⟨hkq, hq64, hbit, hgq, hnext⟩ := Plain.round (tgt N P v) S k hS hz
        have hwd := Plain.hi_lt S k hS
        have hcall : ∀ W, TabAt W → Calls Ybad.prog 13 #[.int .u64 (Plain.hi S k)] W fun e w' => e = .returned (.int .i64 (Lib.ctz 64 (Plain.hi S k))) ∧ w' = W := fun W h => tz64 _ hwd hz W h
        have htab := Htab.out hg
        have HTB : Hid _ := htab
        clear htab
        have HNX : Hid _ := hnext
        have HGY : Hid _ := (Plain.gath_yes (tgt N P v) S _ hbit).trans (by rw [hgq])
        clear hnext hbit hgq
        have hwlt : Hid (∀ y, Plain.hi S k &&& (Plain.hi S k - 1) = y → y < Plain.hi S k) := fun y h => by
          rw [← h]; exact Nat.lt_of_le_of_lt Nat.and_le_right (by omega)
        generalize Lib.ctz 64 (Plain.hi S k) = q at hkq hq64 hcall HNX HGY
        have HCA : Hid _ := hcall
        clear hcall
        have hga := Plain.gath_lt (tgt N P v) (fun q => by have := hv (P + q); unfold tgt; split <;> omega) S k
        generalize Plain.gath (tgt N P v) S k = ga at hx HGY hga
        generalize Plain.hi S k = wd at *
        have hne : ((wd : Int) != 0) = true := by simpa using hz
        have hw1 : 1 ≤ wd := by omega
        by_cases hqN : q < N
        · first
          | (exfalso; omega)
          | (obtain ⟨r, hr, hrN, dr⟩ : ∃ r : Nat, tgt N P v q = r ∧ r ≤ N ∧ wr.cell? ⟨g, P + q, none⟩ = some (.int .i32 r) :=
               ⟨v (P + q), by simp [tgt, hqN], hv _, hg.cell (row _ (by omega)) (by simpa using gx)⟩
             have HR : Hid _ := hr
             have r0 : (r : Int) / 64 = 0 := by omega
             have r1 : (r : Int) % 64 = r := by omega
             clear hr row hv hz
             go_wp2_with (go_at_call 13; refine (HCA.out _ HTB.out).mono ?_; rintro e w' ⟨rfl, rfl⟩)
             go_region
             go_wp2
             rw [or_bit ga r hga (by omega)]
             obtain ⟨s1, s2, s3⟩ := stored (.int .u64 ((ga ||| 2 ^ r : Nat) : Int)) hx hf hg
             go_roundw
             case rel => exact ⟨q + 1, by omega, by rw [and_pred wd hwd hw1, HNX.out], by rw [HGY.out, HR.out]; exact s1, s2, s3⟩
             case measure => simp only [intOf]; rw [and_pred wd hwd hw1]; have := hwlt.out _ rfl; omega)
        · have ht : tgt N P v q = N := by simp [tgt, hqN]
          have HR : Hid _ := ht
          have r0 : (N : Int) / 64 = 0 := by omega
          have r1 : (N : Int) % 64 = N := by omega
          clear ht row hv hz
          go_wp2_with (go_at_call 13; refine (HCA.out _ HTB.out).mono ?_; rintro e w' ⟨rfl, rfl⟩)
          go_region
          go_wp2
          rw [or_bit ga N hga (by omega)]
          obtain ⟨s1, s2, s3⟩ := stored (.int .u64 ((ga ||| 2 ^ N : Nat) : Int)) hx hf hg
          go_roundw
          case rel => exact ⟨q + 1, by omega, by rw [and_pred wd hwd hw1, HNX.out], by rw [HGY.out, HR.out]; exact s1, s2, s3⟩
          case measure => simp only [intOf]; rw [and_pred wd hwd hw1]; have := hwlt.out _ rfl; omega
end Go.Proofs.YbulkbpesDoor
