import Derived.Test.YbulkbpesDoorBuild
namespace Go.Proofs.YbulkbpesDoor
open Go.ChangeShapes Go.WideShapes Go.ChangeAt Go.RowKit
set_option linter.unusedVariables false

/-- The target of bit q under a label whose row begins at P: the next state, or the rejection bit N. -/
def tgt (N P : Nat) (v : Nat → Nat) (q : Nat) : Nat := if q < N then v (P + q) else N

theorem bit_yes (S k : Nat) (hS : S < 2 ^ 64) (h : S / 2 ^ k % 2 = 1) : (bits BinOp.and IntKind.u64 ((S : Int) / 2 ^ k) 1 == 1) = true := by
  have e : (S : Int) / 2 ^ k = ((S / 2 ^ k : Nat) : Int) := by simp
  have h1 : S / 2 ^ k < 18446744073709551616 := Nat.lt_of_le_of_lt (Nat.div_le_self _ _) hS
  rw [e]
  have := bits_and_u64_nat (S / 2 ^ k) 1 h1 (by omega)
  rw [Nat.and_one_is_mod, h] at this
  simpa using this
theorem bit_no (S k : Nat) (hS : S < 2 ^ 64) (h : S / 2 ^ k % 2 ≠ 1) : (bits BinOp.and IntKind.u64 ((S : Int) / 2 ^ k) 1 == 1) = false := by
  have e : (S : Int) / 2 ^ k = ((S / 2 ^ k : Nat) : Int) := by simp
  have h1 : S / 2 ^ k < 18446744073709551616 := Nat.lt_of_le_of_lt (Nat.div_le_self _ _) hS
  rw [e]
  have := bits_and_u64_nat (S / 2 ^ k) 1 h1 (by omega)
  rw [Nat.and_one_is_mod, show S / 2 ^ k % 2 = 0 by omega] at this
  rw [show bits BinOp.and IntKind.u64 ((S / 2 ^ k : Nat) : Int) 1 = 0 from by simpa using this]
  rfl

theorem or_bit (ga r : Nat) (hga : ga < 2 ^ 64) (hr : r ≤ 63) : bits BinOp.or IntKind.u64 (ga : Int) (IntKind.u64.wrap (2 ^ r)) = ((ga ||| 2 ^ r : Nat) : Int) := by
  have h1 : 2 ^ r < 18446744073709551616 := Nat.lt_of_lt_of_le (Nat.pow_lt_pow_right (by decide) (show r < 64 by omega)) (by decide)
  have e : IntKind.u64.wrap (2 ^ r) = ((2 ^ r : Nat) : Int) := by
    rw [IntKind.wrap_u64]
    have : ((2 ^ r : Nat) : Int) < 18446744073709551616 := by omega
    have e2 : ((2 : Int) ^ r) = ((2 ^ r : Nat) : Int) := by simp
    rw [e2]; exact Int.emod_eq_of_lt (Int.natCast_nonneg _) this
  rw [e, bits_or_u64_nat ga _ hga h1]

/-- A store into the one word at x. -/
theorem stored {w wr : World} {x : Nat} {u : Value} (v : Value) (hx : wr.cell? ⟨x, 0, none⟩ = some u) (hf : wr.frozen? ⟨x, 0, none⟩ = false) (hg : w.grownBy wr (some x)) :
    (wr.setCell ⟨x, 0, none⟩ v).drew.cell? ⟨x, 0, none⟩ = some v ∧ (wr.setCell ⟨x, 0, none⟩ v).drew.frozen? ⟨x, 0, none⟩ = false ∧ w.grownBy (wr.setCell ⟨x, 0, none⟩ v).drew (some x) := by
  refine ⟨by simp [go_sem, hx], by simp [go_sem, hf], hg.os, hg.tape, hg.output, by simpa [World.setCell] using hg.size, fun k hk hne => ?_⟩
  rw [show (wr.setCell ⟨x, 0, none⟩ v).drew.heap = (wr.setCell ⟨x, 0, none⟩ v).heap from rfl, Below.heap_setCell _ _ _ _ (fun e => hne (by simp [e])), hg.block k hk hne]

/-- What the walks of the model and of step are told of the world: the table at T, its row at g, the set at f, the words gathered at x. -/
structure Ready (w : World) (N M g T f x : Nat) (v : Nat → Nat) (S a : Nat) : Prop where
  row : ∀ j, j < M → w.cell? ⟨g, j, none⟩ = some (.int .i32 (v j))
  c0 : w.cell? ⟨T, 0, none⟩ = some (.int .i64 N)
  c3 : w.cell? ⟨T, 3, none⟩ = some (.slice (some ⟨g, 0, none⟩) M M)
  cf : w.cell? ⟨f, 0, none⟩ = some (.int .u64 S)
  cx : w.cell? ⟨x, 0, none⟩ = some (.int .u64 a)
  fx : w.frozen? ⟨x, 0, none⟩ = false
  gx : g ≠ x
  Tx : T ≠ x
  fx' : f ≠ x

set_option maxHeartbeats 2000000 in
theorem model_any (N M P l g T f x : Nat) (v : Nat → Nat) (S : Nat) (w : World) (hN : N ≤ 63) (hl : l ≤ 2) (hP : (l : Int) * (N : Int) = P) (hPM : P + N ≤ M) (hM : M ≤ 189) (hv : ∀ j, v j ≤ N) (hS : S < 2 ^ 64) (hr : Ready w N M g T f x v S 0) :
    Calls Ybad.prog 7 #[.pointer (some ⟨T, 0, none⟩), .slice (some ⟨f, 0, none⟩) 1 1, .slice (some ⟨x, 0, none⟩) 1 1, .int .i32 l] w fun e w' =>
      e = .returned (.tuple #[]) ∧ w'.cell? ⟨x, 0, none⟩ = some (.int .u64 (Plain.gath (tgt N P v) S 64)) ∧ w.grownBy w' (some x) := by
  obtain ⟨row, c0, c3, cf, cx, fx, gx, Tx, fx'⟩ := hr
  go_enter Ybad.func7, Ybad.ntmps7
  go_wp2
  go_loopw [9, 10] (fun q r wr => ∃ k : Nat, k ≤ 64 ∧ q = .int .i64 k ∧ wr.cell? ⟨x, 0, none⟩ = some (.int .u64 (Plain.gath (tgt N P v) S k)) ∧ wr.frozen? ⟨x, 0, none⟩ = false ∧ w.grownBy wr (some x)) (fun q _ _ => 64 - (intOf q).toNat)
  case atStart => exact ⟨0, by omega, rfl, cx, fx, World.grownBy.refl _ _⟩
  case round =>
    obtain ⟨k, hk, rfl, hx, hf, hg⟩ := hrel
    by_cases hlt : k < 64
    · have d0 := hg.cell c0 (by simpa using Tx)
      have d3 := hg.cell c3 (by simpa using Tx)
      have df := hg.cell cf (by simpa using fx')
      have q0 : (k : Int) / 64 = 0 := by omega
      have q1 : (k : Int) % 64 = k := by omega
      clear c0 c3 cf cx fx
      by_cases hb : S / 2 ^ k % 2 = 1
      · have hbit := bit_yes S k hS hb
        have HY : Hid _ := Plain.gath_yes (tgt N P v) S k hb
        have hga := Plain.gath_lt (tgt N P v) (fun q => by have := hv (P + q); unfold tgt; split <;> omega) S k
        generalize Plain.gath (tgt N P v) S k = ga at hx HY hga
        clear hb
        by_cases hkN : k < N
        · obtain ⟨r, hr, hrN, dr⟩ : ∃ r : Nat, tgt N P v k = r ∧ r ≤ N ∧ wr.cell? ⟨g, P + k, none⟩ = some (.int .i32 r) :=
            ⟨v (P + k), by simp [tgt, hkN], hv _, hg.cell (row _ (by omega)) (by simpa using gx)⟩
          have HT : Hid _ := hr
          have r0 : (r : Int) / 64 = 0 := by omega
          have r1 : (r : Int) % 64 = r := by omega
          clear hr row hv
          go_wp2
          go_region
          go_wp2
          rw [or_bit ga r hga (by omega)]
          obtain ⟨s1, s2, s3⟩ := stored (.int .u64 ((ga ||| 2 ^ r : Nat) : Int)) hx hf hg
          go_roundw
          case rel => exact ⟨k + 1, by omega, by go_num, by rw [HY.out, HT.out]; exact s1, s2, s3⟩
          case measure => simp [intOf]; omega
        · have ht : tgt N P v k = N := by simp [tgt, hkN]
          have HT : Hid _ := ht
          clear ht
          have r0 : (N : Int) / 64 = 0 := by omega
          have r1 : (N : Int) % 64 = N := by omega
          clear row hv
          go_wp2
          go_region
          go_wp2
          rw [or_bit ga N hga (by omega)]
          obtain ⟨s1, s2, s3⟩ := stored (.int .u64 ((ga ||| 2 ^ N : Nat) : Int)) hx hf hg
          go_roundw
          case rel => exact ⟨k + 1, by omega, by go_num, by rw [HY.out, HT.out]; exact s1, s2, s3⟩
          case measure => simp [intOf]; omega
      · have hbit := bit_no S k hS hb
        have HY : Hid _ := Plain.gath_no (tgt N P v) S k hb
        clear hb row hv
        go_wp2
        go_roundw
        case rel => exact ⟨k + 1, by omega, by go_num, by rw [HY.out]; exact hx, hf, hg⟩
        case measure => simp [intOf]; omega
    · obtain rfl : k = 64 := by omega
      go_wp2
      go_end0
      exact ⟨rfl, hx, hg⟩
end Go.Proofs.YbulkbpesDoor
