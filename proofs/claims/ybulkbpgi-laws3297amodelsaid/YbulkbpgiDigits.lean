import Derived.Test.YbulkbpgiParse
import Derived.Deep.OwnRows
import Derived.WalkLawsBesides
namespace Go.Proofs.Ybulkbpgi
open Go.ChangeShapes Go.WideShapes Go.ChangeAt Go.RowKit
set_option linter.unusedVariables false

theorem infoB : (Yba.prog.info? 5).map (fun i => (i.zero, i.size, i.bytes)) = some (some (.int .u8 0), 1, 1) := by kernel_rfl
theorem make_run (n : Nat) (hn : n ≤ 1024) (w : World) : (Instr.makeSlice 22 (.int .i64 n) (.int .i64 n)).run Yba.prog w = .ok (.slice (some ⟨w.heap.size, 0, none⟩) n n) (w.alloc (.cells (madeCells #[.int .u8 0] n) 5)) :=
  run_make_row' (P := Yba.prog) 22 5 (.int .u8 0) 1 Yba.underlying22 infoB rfl .i64 .i64 n (by omega) (by omega) w

/-- The digit that the law lays for a byte. -/
def dg (Z : Nat → Int) (j : Nat) : Int := 48 + Z j % 10
theorem dg_dig (Z : Nat → Int) (j : Nat) : Dig (dg Z j) := by unfold Dig dg; omega
def rowk (Z : Nat → Int) (k j : Nat) : Value := if j < k then .int .u8 (dg Z j) else .int .u8 0

def byteOf : Value → Int
  | .int _ x => x
  | _ => 0
theorem parse_set {W : World} {N k q : Nat} {f : Nat → Value} (h : W.rowIs N 5 k f) (hf : ∀ j, j < k → ∃ x, f j = .int .u8 x) (hq : q < k) (hbad : ∃ c, f q = .int .u8 c ∧ ¬ Dig c) (cap : Nat) :
    Calls Yba.prog 5 #[.slice (some ⟨N, 0, none⟩) k cap] W fun e w' => e = .returned (.tuple #[.int .i64 0, .bool false]) ∧ w' = W := by
  by_cases hl : 9 < k
  · exact parse_len _ k cap W (.inr hl)
  · refine parse_bad N 0 k cap (fun j => byteOf (f j)) q W (by omega) (fun j hj => ?_) hq ?_
    · obtain ⟨x, hx⟩ := hf j hj
      rw [Nat.zero_add, h.cell hj, hx]
      rfl
    · obtain ⟨c, hc, hd⟩ := hbad
      show ¬ Dig (byteOf (f q))
      rw [hc]
      exact hd
set_option maxRecDepth 100000 in
set_option maxHeartbeats 4000000 in
theorem walk_fill (a : Option Addr) (b o n cap : Nat) (Z : Nat → Int) (a1 : Bool) (a2 : Int) (w : World) (hn : n ≤ 1024) (h2 : 0 ≤ a2 ∧ a2 ≤ 255) (ha : 0 < n → a = some ⟨b, o, none⟩ ∧ b < w.heap.size) (hc : ∀ j, j < n → w.cell? ⟨b, o + j, none⟩ = some (.int .u8 (Z j))) (hZ : ∀ j, 0 ≤ Z j ∧ Z j ≤ 255) :
    Calls Yba.prog 4 #[.slice a n cap, .bool a1, .int .u8 a2] w fun e w' => e = .returned (.bool true) ∧ Below w.heap.size w w' := by
  have hmk := make_run n hn
  have hd0 : decide ((1024 : Int) < (n : Int)) = false := by simp; omega
  have HA := hide ha
  have HC := hide hc
  clear ha hc
  go_enter Yba.func4, Yba.ntmps4
  go_wp2
  go_loopw [8] (fun i wr => ∃ k : Nat, k ≤ n ∧ i = .int .i64 k ∧ wr.rowIs w.heap.size 5 n (rowk Z k) ∧ wr.heap.size = w.heap.size + 1 ∧ Below w.heap.size w wr) (fun i _ => n - (intOf i).toNat)
  case atStart => exact ⟨0, Nat.zero_le _, rfl, (World.rowIs_made w (.int .u8 0) n 5).congr (fun j hj => by simp [rowk]), by simp, (Below.refl _ _).alloc (Nat.le_refl _) _⟩
  case round =>
    obtain ⟨k, hk, rfl, hrow, hsz, hbel⟩ := hrel
    by_cases hlt : k < n
    · obtain ⟨rfl, hb⟩ := HA.out (by omega)
      have hcx : wr.cell? ⟨b, o + k, none⟩ = some (.int .u8 (Z k)) := (hbel.cell (by exact hb)).trans (HC.out k hlt)
      have c0 : wr.cell? ⟨w.heap.size, k, none⟩ = some (rowk Z k k) := hrow.cell hlt
      have f0 := hrow.frozen k
      have hz := hZ k
      have hdg : dg Z k = 48 + Z k % 10 := rfl
      have HR := hide hrow
      clear hrow hmk
      generalize Z k = z at *
      have e1 : Int.tmod z 10 = z % 10 := Int.tmod_eq_emod_of_nonneg hz.1
      have e2 : IntKind.u8.wrap (48 + z % 10) = 48 + z % 10 := by rw [IntKind.wrap_u8]; omega
      go_wp2
      go_roundw
      case rel =>
        refine ⟨k + 1, by omega, by go_num, ?_, by simp [hsz], hbel.setCell (by exact Nat.le_refl _) _⟩
        rw [← hdg]
        refine (HR.out.set _ _).congr fun j hj => ?_
        unfold rowk
        split
        · next e => subst e; simp
        · next e => have : (j < k + 1) ↔ (j < k) := by omega
                    simp [this]
      case measure => simp [intOf]; omega
    · obtain rfl : k = n := by omega
      have hcd : ∀ j, j < k → wr.cell? ⟨w.heap.size, 0 + j, none⟩ = some (.int .u8 (dg Z j)) := fun j hj => by
        rw [Nat.zero_add, hrow.cell hj]; simp [rowk, hj]
      have hcz : ∀ j, j < k → a = some ⟨b, o, none⟩ ∧ wr.cell? ⟨b, o + j, none⟩ = some (.int .u8 (Z j)) := fun j hj => ⟨(HA.out (by omega)).1, (hbel.cell (by exact (HA.out (by omega)).2)).trans (HC.out j hj)⟩
      have HCD := hide hcd
      have HCZ := hide hcz
      have HR := hide hrow
      have HBEL := hide hbel
      clear hcd hcz hrow hbel hmk HA HC hlt hk hd0
      have hparts : ((k = 0 ∨ 9 < k) ∧ (a1 = false ∨ k = 0)) ∨ ((1 ≤ k ∧ k ≤ 9) ∧ a1 = false) ∨ (0 < k ∧ a1 = true) := by cases a1 <;> simp <;> omega
      rcases hparts with ⟨hl, hb⟩ | ⟨hl, rfl⟩ | ⟨hl, rfl⟩
      · have H1 := hide (fun c => parse_len (some ⟨w.heap.size, 0, none⟩) k c wr hl)
        rcases hl with rfl | hl
        · cases a1
          all_goals (
            go_wp2_with fail
            refine (H1.out _).mono ?_
            rintro e w2 ⟨rfl, rfl⟩
            go_wp2
            go_ret
            exact ⟨rfl, HBEL.out⟩)
        · obtain rfl : a1 = false := by rcases hb with h | h; exact h; omega
          have d1 : decide ((k : Int) = 0) = false := by simp; omega
          have d2 : decide ((9 : Int) < (k : Int)) = true := by simp; omega
          have d3 : ¬ k = 0 := by omega
          go_wp2_with fail
          refine (H1.out _).mono ?_
          rintro e w2 ⟨rfl, rfl⟩
          go_wp2
          go_ret
          exact ⟨rfl, HBEL.out⟩
      · have H1 := hide (fun c => parse_ok w.heap.size 0 k c (dg Z) wr hl HCD.out (fun j _ => dg_dig Z j))
        have d1 : decide ((k : Int) = 0) = false := by simp; omega
        have d2 : decide ((9 : Int) < (k : Int)) = false := by simp; omega
        have d3 : ¬ k = 0 := by omega
        have h3 : IntKind.i64.wrap ((k : Int) - 1) = (k : Int) - 1 := by rw [IntKind.wrap_i64]; omega
        go_wp2_with fail
        refine (H1.out _).mono ?_
        rintro e w2 ⟨rfl, rfl⟩
        go_wp2
        clear d1 d2 d3 h3 H1 HR HCD
        go_loop [12, 13, 14] (fun acc p i => ∃ m : Nat, m ≤ k ∧ i = .int .i64 ((k : Int) - 1 - m) ∧ p = .int .i64 (10 ^ m) ∧ acc = .int .i64 (rz (dg Z) k m)) (fun _ _ i => (intOf i + 1).toNat)
        case atStart => exact ⟨0, by omega, by simp, by simp, rfl⟩
        case round =>
          obtain ⟨m, hm, rfl, rfl, rfl⟩ := hrel
          by_cases hlt : m < k
          · obtain ⟨rfl, ck⟩ := HCZ.out (k - 1 - m) (by omega)
            have hz := hZ (k - 1 - m)
            have bk := rz_bound (dg Z) k m (by omega) (fun j _ => dg_dig Z j)
            have bk1 := rz_bound (dg Z) k (m + 1) (by omega) (fun j _ => dg_dig Z j)
            have p0 := pow9 m (by omega)
            have p1 := pow9 (m + 1) (by omega)
            have hv : rz (dg Z) k (m + 1) = rz (dg Z) k m + (Z (k - 1 - m) % 10) * 10 ^ m := by
              show rz (dg Z) k m + (dg Z (k - 1 - m) - 48) * 10 ^ m = _
              rw [show dg Z (k - 1 - m) - 48 = Z (k - 1 - m) % 10 by unfold dg; omega]
            have hp : (10 : Int) ^ (m + 1) = 10 ^ m * 10 := Int.pow_succ _ _
            have hz0 := Int.mul_nonneg (show 0 ≤ Z (k - 1 - m) % 10 by omega) (Int.le_of_lt p0.1)
            rw [hv] at bk1
            rw [hp] at p1 bk1
            generalize Z (k - 1 - m) = z at *
            generalize (10 : Int) ^ m = t at *
            generalize rz (dg Z) k m = x at *
            have i0 : (0 : Int) ≤ (k : Int) - 1 - (m : Int) := by omega
            have i1 : (k : Int) - 1 - (m : Int) < (k : Int) := by omega
            have i2 : ((k : Int) - 1 - (m : Int)).toNat = k - 1 - m := by omega
            have i3 : IntKind.i64.wrap ((k : Int) - 1 - (m : Int) - 1) = (k : Int) - 1 - (m : Int) - 1 := by rw [IntKind.wrap_i64]; omega
            have i4 : (k : Int) - 1 - (m : Int) - 1 = (k : Int) - 1 - ((m + 1 : Nat) : Int) := by omega
            generalize (k : Int) - 1 - (m : Int) = I at *
            have e1 : Int.tmod z 10 = z % 10 := Int.tmod_eq_emod_of_nonneg hz.1
            have e4 : IntKind.i64.wrap ((z % 10) * t) = (z % 10) * t := by rw [IntKind.wrap_i64]; omega
            have e5 : IntKind.i64.wrap (x + (z % 10) * t) = x + (z % 10) * t := by rw [IntKind.wrap_i64]; omega
            have e6 : IntKind.i64.wrap (t * 10) = t * 10 := by rw [IntKind.wrap_i64]; omega
            go_wp2
            go_round
            case rel => exact ⟨m + 1, by omega, by simp, by rw [hp], by rw [hv]⟩
            case measure => simp [intOf]; omega
          · have hmn : m = k := by omega
            rw [hmn, rz_vz]
            have i0 : (k : Int) - 1 - (k : Int) = -1 := by omega
            rw [i0]
            go_wp2
            go_ret
            exact ⟨by simp, HBEL.out⟩
      · have hr : ∃ r : Nat, r < 5 ∧ Int.tmod (Int.tdiv a2 7) 5 = (r : Int) := by
          refine ⟨(a2 / 7 % 5).toNat, by omega, ?_⟩
          rw [Int.tdiv_eq_ediv_of_nonneg h2.1, Int.tmod_eq_emod_of_nonneg (by omega)]
          omega
        obtain ⟨r, hr5, hr⟩ := hr
        have hrE : a2 / 7 % 5 = (r : Int) := by
          rw [Int.tdiv_eq_ediv_of_nonneg h2.1, Int.tmod_eq_emod_of_nonneg (by omega)] at hr
          exact hr
        have hp : ∃ q : Nat, q < k ∧ Int.tmod a2 (k : Int) = (q : Int) := by
          refine ⟨(a2 % (k : Int)).toNat, by have := Int.emod_lt_of_pos a2 (show (0 : Int) < k by omega); omega, ?_⟩
          rw [Int.tmod_eq_emod_of_nonneg h2.1]
          have := Int.emod_nonneg a2 (show (k : Int) ≠ 0 by omega)
          omega
        obtain ⟨q, hq, hp⟩ := hp
        have hpE : a2 % (k : Int) = (q : Int) := by
          rw [Int.tmod_eq_emod_of_nonneg h2.1] at hp
          exact hp
        have cq : wr.cell? ⟨w.heap.size, q, none⟩ = some (.int .u8 (dg Z q)) := by have := HCD.out q hq; rwa [Nat.zero_add] at this
        have fq := HR.out.frozen q
        have k0 : ¬ k = 0 := by omega
        have k1 : ¬ (k : Int) = 0 := by omega
        have H1 := hide (fun (W : World) (c : Int) (hc : ¬ Dig c) (h : W.rowIs w.heap.size 5 k (fun i => if i = q then .int .u8 c else rowk Z k i)) (cp : Nat) => parse_set h (fun j hj => by
          by_cases e : j = q
          · exact ⟨c, by simp [e]⟩
          · exact ⟨dg Z j, by simp [e, rowk, hj]⟩) hq ⟨c, by simp, hc⟩ cp)
        have hr' : r = 0 ∨ r = 1 ∨ r = 2 ∨ r = 3 ∨ r = 4 := by omega
        clear HCD HCZ hr5 k1 hsz
        rcases hr' with rfl | rfl | rfl | rfl | rfl
        · go_wp2_with fail
          go_region
          go_wp2_with fail
          refine (H1.out _ 47 (by unfold Dig; omega) (by exact HR.out.set q (.int .u8 47)) _).mono ?_
          rintro e w2 ⟨rfl, rfl⟩
          go_wp2
          go_ret
          exact ⟨rfl, (HBEL.out.setCell (by exact Nat.le_refl _) _).drew⟩
        · go_wp2_with fail
          go_region
          go_wp2_with fail
          refine (H1.out _ 58 (by unfold Dig; omega) (by exact HR.out.set q (.int .u8 58)) _).mono ?_
          rintro e w2 ⟨rfl, rfl⟩
          go_wp2
          go_ret
          exact ⟨rfl, (HBEL.out.setCell (by exact Nat.le_refl _) _).drew⟩
        · go_wp2_with fail
          go_region
          go_wp2_with fail
          refine (H1.out _ 97 (by unfold Dig; omega) (by exact HR.out.set q (.int .u8 97)) _).mono ?_
          rintro e w2 ⟨rfl, rfl⟩
          go_wp2
          go_ret
          exact ⟨rfl, (HBEL.out.setCell (by exact Nat.le_refl _) _).drew⟩
        · go_wp2_with fail
          go_region
          go_wp2_with fail
          refine (H1.out _ 32 (by unfold Dig; omega) (by exact HR.out.set q (.int .u8 32)) _).mono ?_
          rintro e w2 ⟨rfl, rfl⟩
          go_wp2
          go_ret
          exact ⟨rfl, (HBEL.out.setCell (by exact Nat.le_refl _) _).drew⟩
        · go_wp2_with fail
          go_region
          go_wp2_with fail
          refine (H1.out _ 45 (by unfold Dig; omega) (by exact HR.out.set q (.int .u8 45)) _).mono ?_
          rintro e w2 ⟨rfl, rfl⟩
          go_wp2
          go_ret
          exact ⟨rfl, (HBEL.out.setCell (by exact Nat.le_refl _) _).drew⟩

set_option maxRecDepth 100000 in
theorem walk_long (a : Option Addr) (n cap : Nat) (a1 : Bool) (a2 : Int) (w : World) (hn : 1024 < n) :
    Calls Yba.prog 4 #[.slice a n cap, .bool a1, .int .u8 a2] w fun e w' => e = .returned (.bool true) ∧ Below w.heap.size w w' := by
  go_enter Yba.func4, Yba.ntmps4
  go_wp2
  go_ret
  exact ⟨rfl, Below.refl _ _⟩
end Go.Proofs.Ybulkbpgi
