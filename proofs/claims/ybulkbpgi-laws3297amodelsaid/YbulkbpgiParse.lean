/-
  parseLength and the law's own model of it: each computes the plain value of the digits.
-/
import Derived.Test.YbulkbpgiRows
import Derived.WalkKit
import Derived.ProofKit
import Derived.OpenShut
import Derived.ShutString
import Derived.ChangeOld
import Derived.Below
import Derived.Deep.LoopGhost
import Derived.Deep.QuietTactic
import Derived.BigQuiet
namespace Go.Proofs.Ybulkbpgi
open Go.ChangeShapes Go.WideShapes Go.ChangeAt Go.RowKit
set_option linter.unusedVariables false

theorem hide {p : Prop} (h : p) : Hid p := h
/-- The value of the first k digits. -/
def vz (Z : Nat → Int) : Nat → Int
  | 0 => 0
  | k + 1 => vz Z k * 10 + (Z k - 48)
/-- The value of the last m of n digits. -/
def rz (Z : Nat → Int) (n : Nat) : Nat → Int
  | 0 => 0
  | m + 1 => rz Z n m + (Z (n - 1 - m) - 48) * 10 ^ m
def Dig (c : Int) : Prop := 48 ≤ c ∧ c ≤ 57

theorem vz_rz (Z : Nat → Int) : ∀ (m k : Nat), vz Z k * 10 ^ m + rz Z (k + m) m = vz Z (k + m)
  | 0, k => by simp [rz]
  | m + 1, k => by
    have ih := vz_rz Z m (k + 1)
    rw [show k + 1 + m = k + (m + 1) by omega] at ih
    rw [← ih]
    simp only [rz, vz]
    rw [show k + (m + 1) - 1 - m = k by omega, Int.pow_succ, Int.add_mul]
    have : vz Z k * (10 ^ m * 10) = vz Z k * 10 * 10 ^ m := by rw [Int.mul_assoc, Int.mul_comm (10 : Int) (10 ^ m)]
    omega
theorem rz_vz (Z : Nat → Int) (n : Nat) : rz Z n n = vz Z n := by
  have := vz_rz Z n 0
  simpa [vz] using this
theorem vz_bound (Z : Nat → Int) (n : Nat) (h : ∀ j, j < n → Dig (Z j)) : 0 ≤ vz Z n ∧ vz Z n < 10 ^ n := by
  induction n with
  | zero => simp [vz]
  | succ n ih =>
    have := ih (fun j hj => h j (by omega))
    have hd := h n (by omega)
    unfold Dig at hd
    simp only [vz, Int.pow_succ]
    omega
theorem pow9 (n : Nat) (h : n ≤ 9) : (0 : Int) < 10 ^ n ∧ (10 : Int) ^ n ≤ 1000000000 := by
  have : n = 0 ∨ n = 1 ∨ n = 2 ∨ n = 3 ∨ n = 4 ∨ n = 5 ∨ n = 6 ∨ n = 7 ∨ n = 8 ∨ n = 9 := by omega
  rcases this with rfl | rfl | rfl | rfl | rfl | rfl | rfl | rfl | rfl | rfl <;> decide
theorem vz_small (Z : Nat → Int) (n k : Nat) (hk : k ≤ n) (hn : n ≤ 9) (h : ∀ j, j < n → Dig (Z j)) : 0 ≤ vz Z k ∧ vz Z k < 1000000000 := by
  have := vz_bound Z k (fun j hj => h j (by omega))
  have := pow9 k (by omega)
  omega

set_option maxRecDepth 100000 in
set_option maxHeartbeats 2000000 in
theorem parse_ok (b o n cap : Nat) (Z : Nat → Int) (w : World) (hn : 1 ≤ n ∧ n ≤ 9) (hc : ∀ j, j < n → w.cell? ⟨b, o + j, none⟩ = some (.int .u8 (Z j))) (hd : ∀ j, j < n → Dig (Z j)) :
    Calls Yba.prog 5 #[.slice (some ⟨b, o, none⟩) n cap] w fun e w' => e = .returned (.tuple #[.int .i64 (vz Z n), .bool true]) ∧ w' = w := by
  have h1 : decide ((n : Int) = 0) = false := by simp; omega
  have h2 : decide ((9 : Int) < (n : Int)) = false := by simp; omega
  have h3 : ¬ n = 0 := by omega
  have HC := hide hc
  have HD := hide hd
  clear hc hd
  go_enter Yba.func5, Yba.ntmps5
  go_wp2
  go_loop [4, 6, 17] (fun acc c i => ∃ k : Nat, k ≤ n ∧ i = .int .i64 k ∧ acc = .int .i64 (vz Z k)) (fun _ _ i => n - (intOf i).toNat)
  case atStart => exact ⟨0, by omega, rfl, rfl⟩
  case round =>
    obtain ⟨k, hk, rfl, rfl⟩ := hrel
    by_cases hlt : k < n
    · have ck := HC.out k hlt
      have dk := HD.out k hlt
      have bk := vz_small Z n k (by omega) (by omega) HD.out
      have hv : vz Z (k + 1) = vz Z k * 10 + (Z k - 48) := rfl
      unfold Dig at dk
      generalize Z k = z at *
      generalize vz Z k = x at *
      have e1 : decide (z < 48) = false := by simp; omega
      have e2 : decide (57 < z) = false := by simp; omega
      have e3 : IntKind.u8.wrap (z - 48) = z - 48 := by rw [IntKind.wrap_u8]; omega
      have e4 : IntKind.i64.wrap (x * 10) = x * 10 := by rw [IntKind.wrap_i64]; omega
      have e5 : IntKind.i64.wrap (x * 10 + (z - 48)) = x * 10 + (z - 48) := by rw [IntKind.wrap_i64]; omega
      go_wp2
      go_round
      case rel => exact ⟨k + 1, by omega, by go_num, by rw [hv]⟩
      case measure => simp [intOf]; omega
    · obtain rfl : k = n := by omega
      go_wp2
      go_ret2
      exact ⟨rfl, rfl⟩

set_option maxRecDepth 100000 in
theorem parse_len (a : Option Addr) (n cap : Nat) (w : World) (hn : n = 0 ∨ 9 < n) :
    Calls Yba.prog 5 #[.slice a n cap] w fun e w' => e = .returned (.tuple #[.int .i64 0, .bool false]) ∧ w' = w := by
  by_cases h0 : n = 0
  · subst h0
    go_enter Yba.func5, Yba.ntmps5
    go_wp2
    go_ret2
    exact ⟨rfl, rfl⟩
  · have h1 : decide ((n : Int) = 0) = false := by simp; omega
    have h2 : decide ((9 : Int) < (n : Int)) = true := by simp; omega
    go_enter Yba.func5, Yba.ntmps5
    go_wp2
    go_ret2
    exact ⟨rfl, rfl⟩

set_option maxRecDepth 100000 in
set_option maxHeartbeats 2000000 in
theorem parse_bad (b o n cap : Nat) (Z : Nat → Int) (j0 : Nat) (w : World) (hn : n ≤ 9) (hc : ∀ j, j < n → w.cell? ⟨b, o + j, none⟩ = some (.int .u8 (Z j))) (hj : j0 < n) (hd : ¬ Dig (Z j0)) :
    Calls Yba.prog 5 #[.slice (some ⟨b, o, none⟩) n cap] w fun e w' => e = .returned (.tuple #[.int .i64 0, .bool false]) ∧ w' = w := by
  have h1 : decide ((n : Int) = 0) = false := by simp; omega
  have h2 : decide ((9 : Int) < (n : Int)) = false := by simp; omega
  have h3 : ¬ n = 0 := by omega
  have HC := hide hc
  have HD := hide hd
  clear hc hd
  go_enter Yba.func5, Yba.ntmps5
  go_wp2
  go_loop [4, 6, 17] (fun acc c i => ∃ (k : Nat) (x : Int), k ≤ j0 ∧ i = .int .i64 k ∧ acc = .int .i64 x) (fun _ _ i => n - (intOf i).toNat)
  case atStart => exact ⟨0, 0, by omega, rfl, rfl⟩
  case round =>
    obtain ⟨k, x, hk, rfl, rfl⟩ := hrel
    have hlt : k < n := by omega
    have ck := HC.out k hlt
    by_cases dk : Dig (Z k)
    · have hkj : k ≠ j0 := fun e => HD.out (e ▸ dk)
      unfold Dig at dk
      generalize Z k = z at *
      have e1 : decide (z < 48) = false := by simp; omega
      have e2 : decide (57 < z) = false := by simp; omega
      go_wp2
      go_round
      case rel => exact ⟨k + 1, _, by omega, by go_num, rfl⟩
      case measure => simp [intOf]; omega
    · unfold Dig at dk
      generalize Z k = z at *
      by_cases hz : z < 48
      · have e1 : decide (z < 48) = true := by simp; omega
        go_wp2
        go_ret2
        exact ⟨rfl, rfl⟩
      · have e1 : decide (z < 48) = false := by simp; omega
        have e2 : decide (57 < z) = true := by simp; omega
        go_wp2
        go_ret2
        exact ⟨rfl, rfl⟩

/-! ### the law's own model -/
theorem rz_bound (Z : Nat → Int) (n m : Nat) (hm : m ≤ n) (h : ∀ j, j < n → Dig (Z j)) : 0 ≤ rz Z n m ∧ rz Z n m < 10 ^ m := by
  induction m with
  | zero => simp [rz]
  | succ m ih =>
    have := ih (by omega)
    have hd := h (n - 1 - m) (by omega)
    unfold Dig at hd
    simp only [rz, Int.pow_succ]
    have hp : (0 : Int) < 10 ^ m := Int.pow_pos (by omega)
    have h1 : 0 ≤ (Z (n - 1 - m) - 48) * 10 ^ m := Int.mul_nonneg (by omega) (by omega)
    have h2 : (Z (n - 1 - m) - 48) * 10 ^ m ≤ 9 * 10 ^ m := Int.mul_le_mul_of_nonneg_right (by omega) (by omega)
    omega

set_option maxRecDepth 100000 in
theorem model_len (a : Option Addr) (n cap : Nat) (w : World) (hn : n = 0 ∨ 9 < n) :
    Calls Yba.prog 6 #[.slice a n cap] w fun e w' => e = .returned (.tuple #[.int .i64 0, .bool false]) ∧ w' = w := by
  by_cases h0 : n = 0
  · subst h0
    go_enter Yba.func6, Yba.ntmps6
    go_wp2
    go_ret2
    exact ⟨rfl, rfl⟩
  · have h1 : decide ((n : Int) < 1) = false := by simp; omega
    have h2 : decide ((9 : Int) < (n : Int)) = true := by simp; omega
    go_enter Yba.func6, Yba.ntmps6
    go_wp2
    go_ret2
    exact ⟨rfl, rfl⟩

set_option maxRecDepth 100000 in
set_option maxHeartbeats 2000000 in
theorem model_ok (b o n cap : Nat) (Z : Nat → Int) (w : World) (hn : 1 ≤ n ∧ n ≤ 9) (hc : ∀ j, j < n → w.cell? ⟨b, o + j, none⟩ = some (.int .u8 (Z j))) (hd : ∀ j, j < n → Dig (Z j)) :
    Calls Yba.prog 6 #[.slice (some ⟨b, o, none⟩) n cap] w fun e w' => e = .returned (.tuple #[.int .i64 (vz Z n), .bool true]) ∧ w' = w := by
  have h1 : decide ((n : Int) < 1) = false := by simp; omega
  have h2 : decide ((9 : Int) < (n : Int)) = false := by simp; omega
  have h3 : IntKind.i64.wrap ((n : Int) - 1) = (n : Int) - 1 := by rw [IntKind.wrap_i64]; omega
  have HC := hide hc
  have HD := hide hd
  clear hc hd
  go_enter Yba.func6, Yba.ntmps6
  go_wp2
  go_loop [4, 5, 6, 7] (fun acc p i c => ∃ m : Nat, m ≤ n ∧ i = .int .i64 ((n : Int) - 1 - m) ∧ p = .int .i64 (10 ^ m) ∧ acc = .int .i64 (rz Z n m)) (fun _ _ i _ => (intOf i + 1).toNat)
  case atStart => exact ⟨0, by omega, by simp, by simp, rfl⟩
  case round =>
    obtain ⟨m, hm, rfl, rfl, rfl⟩ := hrel
    by_cases hlt : m < n
    · have ck := HC.out (n - 1 - m) (by omega)
      have dk := HD.out (n - 1 - m) (by omega)
      have bk := rz_bound Z n m (by omega) HD.out
      have bk1 := rz_bound Z n (m + 1) (by omega) HD.out
      have p0 := pow9 m (by omega)
      have p1 := pow9 (m + 1) (by omega)
      have hv : rz Z n (m + 1) = rz Z n m + (Z (n - 1 - m) - 48) * 10 ^ m := rfl
      have hp : (10 : Int) ^ (m + 1) = 10 ^ m * 10 := Int.pow_succ _ _
      have hz0 := Int.mul_nonneg (show 0 ≤ Z (n - 1 - m) - 48 by unfold Dig at dk; omega) (Int.le_of_lt p0.1)
      unfold Dig at dk
      rw [hv] at bk1
      rw [hp] at p1 bk1
      generalize Z (n - 1 - m) = z at *
      generalize (10 : Int) ^ m = t at *
      generalize hr : rz Z n m = x at *
      have i0 : (0 : Int) ≤ (n : Int) - 1 - (m : Int) := by omega
      have i1 : (n : Int) - 1 - (m : Int) < (n : Int) := by omega
      have i2 : ((n : Int) - 1 - (m : Int)).toNat = n - 1 - m := by omega
      have i3 : IntKind.i64.wrap ((n : Int) - 1 - (m : Int) - 1) = (n : Int) - 1 - (m : Int) - 1 := by rw [IntKind.wrap_i64]; omega
      have i4 : (n : Int) - 1 - (m : Int) - 1 = (n : Int) - 1 - ((m + 1 : Nat) : Int) := by omega
      have i5 : ((n : Int) - 1 - (m : Int)).toNat < n := by omega
      generalize (n : Int) - 1 - (m : Int) = I at *
      have e1 : decide (z < 48) = false := by simp; omega
      have e2 : decide (57 < z) = false := by simp; omega
      have e3 : IntKind.u8.wrap (z - 48) = z - 48 := by rw [IntKind.wrap_u8]; omega
      have e4 : IntKind.i64.wrap ((z - 48) * t) = (z - 48) * t := by rw [IntKind.wrap_i64]; omega
      have e5 : IntKind.i64.wrap (x + (z - 48) * t) = x + (z - 48) * t := by rw [IntKind.wrap_i64]; omega
      have e6 : IntKind.i64.wrap (t * 10) = t * 10 := by rw [IntKind.wrap_i64]; omega
      go_wp2
      go_round
      case rel => exact ⟨m + 1, by omega, by simp, by rw [hp], by rw [hv]⟩
      case measure => simp [intOf]; omega
    · have hmn : m = n := by omega
      rw [hmn, rz_vz]
      have i0 : (n : Int) - 1 - (n : Int) = -1 := by omega
      rw [i0]
      go_wp2
      go_ret2
      exact ⟨rfl, rfl⟩

set_option maxRecDepth 100000 in
set_option maxHeartbeats 2000000 in
theorem model_bad (b o n cap : Nat) (Z : Nat → Int) (j0 : Nat) (w : World) (hn : n ≤ 9) (hc : ∀ j, j < n → w.cell? ⟨b, o + j, none⟩ = some (.int .u8 (Z j))) (hj : j0 < n) (hd : ¬ Dig (Z j0)) :
    Calls Yba.prog 6 #[.slice (some ⟨b, o, none⟩) n cap] w fun e w' => e = .returned (.tuple #[.int .i64 0, .bool false]) ∧ w' = w := by
  have h1 : decide ((n : Int) < 1) = false := by simp; omega
  have h2 : decide ((9 : Int) < (n : Int)) = false := by simp; omega
  have h3 : IntKind.i64.wrap ((n : Int) - 1) = (n : Int) - 1 := by rw [IntKind.wrap_i64]; omega
  have HC := hide hc
  have HD := hide hd
  clear hc hd
  go_enter Yba.func6, Yba.ntmps6
  go_wp2
  go_loop [4, 5, 6, 7] (fun acc p i c => ∃ (m : Nat) (x y : Int), m + j0 < n ∧ i = .int .i64 ((n : Int) - 1 - m) ∧ p = .int .i64 x ∧ acc = .int .i64 y) (fun _ _ i _ => (intOf i + 1).toNat)
  case atStart => exact ⟨0, 1, 0, by omega, by simp, rfl, rfl⟩
  case round =>
    obtain ⟨m, x, y, hm, rfl, rfl, rfl⟩ := hrel
    have ck := HC.out (n - 1 - m) (by omega)
    have i0 : (0 : Int) ≤ (n : Int) - 1 - (m : Int) := by omega
    have i1 : (n : Int) - 1 - (m : Int) < (n : Int) := by omega
    have i2 : ((n : Int) - 1 - (m : Int)).toNat = n - 1 - m := by omega
    have i3 : IntKind.i64.wrap ((n : Int) - 1 - (m : Int) - 1) = (n : Int) - 1 - (m : Int) - 1 := by rw [IntKind.wrap_i64]; omega
    have i4 : (n : Int) - 1 - (m : Int) - 1 = (n : Int) - 1 - ((m + 1 : Nat) : Int) := by omega
    generalize (n : Int) - 1 - (m : Int) = I at *
    by_cases dk : Dig (Z (n - 1 - m))
    · have hkj : n - 1 - m ≠ j0 := fun e => HD.out (e ▸ dk)
      unfold Dig at dk
      generalize Z (n - 1 - m) = z at *
      have e1 : decide (z < 48) = false := by simp; omega
      have e2 : decide (57 < z) = false := by simp; omega
      go_wp2
      go_round
      case rel => exact ⟨m + 1, _, _, by omega, by simp, rfl, rfl⟩
      case measure => simp [intOf]; omega
    · unfold Dig at dk
      generalize Z (n - 1 - m) = z at *
      by_cases hz : z < 48
      · have e1 : decide (z < 48) = true := by simp; omega
        go_wp2
        go_ret2
        exact ⟨rfl, rfl⟩
      · have e1 : decide (z < 48) = false := by simp; omega
        have e2 : decide (57 < z) = true := by simp; omega
        go_wp2
        go_ret2
        exact ⟨rfl, rfl⟩

/-- Both answers, whatever the bytes: one plain answer. -/
theorem parse_any (a : Option Addr) (b o n cap : Nat) (Z : Nat → Int) (w : World) (ha : 0 < n → a = some ⟨b, o, none⟩) (hc : ∀ j, j < n → w.cell? ⟨b, o + j, none⟩ = some (.int .u8 (Z j))) :
    ∃ (r : Int) (k : Bool), Calls Yba.prog 5 #[.slice a n cap] w (fun e w' => e = .returned (.tuple #[.int .i64 r, .bool k]) ∧ w' = w) ∧
      ∀ (b' o' cap' : Nat) (a' : Option Addr) (w' : World), (0 < n → a' = some ⟨b', o', none⟩) → (∀ j, j < n → w'.cell? ⟨b', o' + j, none⟩ = some (.int .u8 (Z j))) → Calls Yba.prog 6 #[.slice a' n cap'] w' (fun e w'' => e = .returned (.tuple #[.int .i64 r, .bool k]) ∧ w'' = w') := by
  by_cases hl : n = 0 ∨ 9 < n
  · exact ⟨0, false, parse_len a n cap w hl, fun b' o' cap' a' w' _ _ => model_len a' n cap' w' hl⟩
  · obtain rfl := ha (by omega)
    by_cases hd : ∀ j, j < n → Dig (Z j)
    · refine ⟨vz Z n, true, parse_ok b o n cap Z w (by omega) hc hd, fun b' o' cap' a' w' ha' hc' => ?_⟩
      obtain rfl := ha' (by omega)
      exact model_ok b' o' n cap' Z w' (by omega) hc' hd
    · have : ∃ j, j < n ∧ ¬ Dig (Z j) := by
        apply Classical.byContradiction
        intro h
        exact hd (fun j hj => Classical.byContradiction fun hx => h ⟨j, hj, hx⟩)
      obtain ⟨j0, hj0, hj1⟩ := this
      refine ⟨0, false, parse_bad b o n cap Z j0 w (by omega) hc hj0 hj1, fun b' o' cap' a' w' ha' hc' => ?_⟩
      obtain rfl := ha' (by omega)
      exact model_bad b' o' n cap' Z j0 w' (by omega) hc' hj0 hj1
end Go.Proofs.Ybulkbpgi
