/-
  WHOLE NUMBERS AS float64: what '+', '-', '*', '<' and floor(a / b) give on them, over the model's own floats (Ieee). No Go in sight.
-/
import Derived.Laws.FloatArith
namespace Go.Proofs.Ybulkbpfu
open Ieee
set_option linter.unusedVariables false

theorem least : double.leastPlace = -1074 := by decide
theorem bin : double.binade = 4503599627370496 := by decide
theorem infR : double.infRung = 2047 * 4503599627370496 := by decide
theorem sgnW : double.signWeight = 9223372036854775808 := by decide
theorem frac : double.fractionBits = 52 := rfl

/-- The bits of a whole number below 2^53 in size. -/
def rungOf (m : Nat) : Nat := if m = 0 then 0 else (m.log2 + 1022) * 4503599627370496 + m * 2 ^ (52 - m.log2)
def W (s : Bool) (m : Nat) : Nat := double.word s (rungOf m)

theorem log2_scale {m : Nat} (hm : m ≠ 0) (e : Nat) : (m * 2 ^ e).log2 = m.log2 + e := by
  have h1 := Nat.log2_self_le hm
  have h2 := @Nat.lt_log2_self m
  have hp : 0 < 2 ^ e := Nat.two_pow_pos e
  have hne : m * 2 ^ e ≠ 0 := Nat.mul_ne_zero hm (by omega)
  rw [Nat.log2_eq_iff hne]
  constructor
  · rw [Nat.pow_add]; exact Nat.mul_le_mul_right _ h1
  · rw [show m.log2 + e + 1 = (m.log2 + 1) + e by omega, Nat.pow_add]; exact Nat.mul_lt_mul_of_pos_right h2 hp

theorem log2_small {m : Nat} (hm : m < 2 ^ 53) : m.log2 ≤ 52 := by
  by_cases h : m = 0
  · subst h; decide
  · have := (Nat.log2_lt h (k := 53)).2 hm
    omega

theorem kept_range {m : Nat} (hm0 : m ≠ 0) (hm : m < 2 ^ 53) : 4503599627370496 ≤ m * 2 ^ (52 - m.log2) ∧ m * 2 ^ (52 - m.log2) < 9007199254740992 := by
  have h1 := Nat.log2_self_le hm0
  have h2 := @Nat.lt_log2_self m
  have h3 := log2_small hm
  have hp : 0 < 2 ^ (52 - m.log2) := Nat.two_pow_pos _
  constructor
  · have := Nat.mul_le_mul_right (2 ^ (52 - m.log2)) h1
    rw [← Nat.pow_add, show m.log2 + (52 - m.log2) = 52 by omega] at this
    exact this
  · have := Nat.mul_lt_mul_of_pos_right h2 hp
    rw [← Nat.pow_add, show m.log2 + 1 + (52 - m.log2) = 53 by omega] at this
    exact this

theorem even_cut_zero (s : Bool) (n : Nat) : Toward.even.cut s n 0 = n := by
  simp [Toward.cut, Nat.mod_one]

theorem even_cut_exact (s : Bool) (n d : Nat) (hn : n ≠ 0) : Toward.even.cut s (n * 2 ^ d) d = n := by
  have hl := log2_scale hn d
  have hmin : min d ((n * 2 ^ d).log2 + 2) = d := by omega
  have hp : 0 < 2 ^ d := Nat.two_pow_pos d
  unfold Toward.cut
  simp only [hmin, Nat.one_shiftLeft]
  rw [Nat.mul_div_cancel _ hp, Nat.mul_mod_left]
  simp

theorem nearest_eq (s : Bool) (m e : Nat) (hm : m < 2 ^ 53) : double.nearest s (m * 2 ^ e) (-(e : Int)) = W s m := by
  have hp : 0 < 2 ^ e := Nat.two_pow_pos e
  by_cases h0 : m = 0
  · subst h0; simp [Format.nearest, W, rungOf]
  · have hne : m * 2 ^ e ≠ 0 := Nat.mul_ne_zero h0 (by omega)
    have hk := log2_small hm
    have hr := kept_range h0 hm
    unfold Format.nearest W rungOf
    rw [if_neg hne, if_neg h0, log2_scale h0, least, bin, infR, frac]
    have hlast : max (-(e : Int) + ((m.log2 + e : Nat) : Int) - ((52 : Nat) : Int)) (-1074) = (m.log2 : Int) - 52 := by omega
    simp only [hlast]
    have hkept : Toward.even.cut s ((m * 2 ^ e) <<< (-(e : Int) - ((m.log2 : Int) - 52)).toNat) ((m.log2 : Int) - 52 - -(e : Int)).toNat = m * 2 ^ (52 - m.log2) := by
      by_cases he : e ≤ 52 - m.log2
      · rw [show ((m.log2 : Int) - 52 - -(e : Int)).toNat = 0 by omega, even_cut_zero, Nat.shiftLeft_eq, Nat.mul_assoc, ← Nat.pow_add]
        congr 2
        omega
      · rw [show (-(e : Int) - ((m.log2 : Int) - 52)).toNat = 0 by omega, Nat.shiftLeft_zero]
        have : e = (52 - m.log2) + (e - (52 - m.log2)) := by omega
        rw [show ((m.log2 : Int) - 52 - -(e : Int)).toNat = e - (52 - m.log2) by omega]
        conv => lhs; rw [this]
        rw [Nat.pow_add, ← Nat.mul_assoc]
        rw [show 52 - m.log2 + (e - (52 - m.log2)) - (52 - m.log2) = e - (52 - m.log2) by omega]
        exact even_cut_exact s _ _ (by omega)
    rw [hkept, show ((m.log2 : Int) - 52 - -1074).toNat = m.log2 + 1022 by omega]
    congr 1
    omega

theorem read_word (s : Bool) (r : Nat) (hr : r < 9223372036854775808) : double.read (double.word s r) = if r < 4503599627370496 then .number s r (-1074) else if r < 2047 * 4503599627370496 then .number s (4503599627370496 + r % 4503599627370496) (-1074 + ((r / 4503599627370496 - 1 : Nat) : Int)) else if r = 2047 * 4503599627370496 then .infinity s else .nan s (r - 2047 * 4503599627370496) := by
  unfold Format.read Format.word
  rw [sgnW, bin, infR, least]
  cases s
  · simp only [Bool.false_eq_true, if_false]
    rw [show r / 9223372036854775808 = 0 by omega, show r % 9223372036854775808 = r by omega]
    rfl
  · simp only [if_true]
    rw [show (9223372036854775808 + r) / 9223372036854775808 = 1 by omega, show (9223372036854775808 + r) % 9223372036854775808 = r by omega]
    rfl

/-- How far a whole number's digits are shifted. -/
def upOf (m : Nat) : Nat := if m = 0 then 1074 else 52 - m.log2
theorem read_W (s : Bool) (m : Nat) (hm : m < 2 ^ 53) : double.read (W s m) = .number s (m * 2 ^ upOf m) (-(upOf m : Int)) := by
  unfold W
  by_cases h0 : m = 0
  · subst h0
    have e1 : rungOf 0 = 0 := rfl
    rw [read_word _ _ (by decide), e1, if_pos (by decide), Nat.zero_mul]
    rfl
  · have hk := log2_small hm
    have hr := kept_range h0 hm
    have e1 : rungOf m = (m.log2 + 1022) * 4503599627370496 + m * 2 ^ (52 - m.log2) := by simp [rungOf, h0]
    have e2 : upOf m = 52 - m.log2 := by simp [upOf, h0]
    rw [e1, e2]
    generalize m * 2 ^ (52 - m.log2) = q at hr
    generalize m.log2 = k at hk
    rw [read_word _ _ (by omega), if_neg (by omega), if_pos (by omega)]
    congr 1 <;> omega

/-- d stands for the whole number n. -/
def Rd (d : Datum) (n : Int) : Prop := ∃ e : Nat, d = .number (decide (n < 0)) (n.natAbs * 2 ^ e) (-(e : Int))
/-- .. but for the sign of a zero. -/
def Rl (d : Datum) (n : Int) : Prop := ∃ (s : Bool) (e : Nat), d = .number s (n.natAbs * 2 ^ e) (-(e : Int)) ∧ (n ≠ 0 → s = decide (n < 0))

def F (n : Int) : Nat := floatOfInt .f64 n
theorem F_W (n : Int) (hn : n.natAbs < 2 ^ 53) : F n = W (decide (n < 0)) n.natAbs := by
  have := nearest_eq (decide (n < 0)) n.natAbs 0 hn
  simpa [F, floatOfInt, FloatKind.nearest, FloatKind.encode, Format.write, FloatKind.format] using this
theorem read_F (n : Int) (hn : n.natAbs < 2 ^ 53) : Rd (double.read (F n)) n := by
  rw [F_W n hn, read_W _ _ hn]
  exact ⟨_, rfl⟩
theorem write_Rd {d : Datum} {n : Int} (h : Rd d n) (hn : n.natAbs < 2 ^ 53) : double.write d = F n := by
  obtain ⟨e, rfl⟩ := h
  rw [F_W n hn, ← nearest_eq _ _ e hn]
  rfl
theorem Rd.l {d : Datum} {n : Int} (h : Rd d n) : Rl d n := by
  obtain ⟨e, rfl⟩ := h
  exact ⟨_, e, rfl, fun _ => rfl⟩
theorem Rd.opposite {d : Datum} {n : Int} (h : Rd d n) : Rl d.opposite (-n) := by
  obtain ⟨e, rfl⟩ := h
  refine ⟨!decide (n < 0), e, by simp [Datum.opposite], fun h => ?_⟩
  by_cases hn : n < 0
  · simp [hn]; omega
  · simp [hn]; omega

theorem signed_eq {s : Bool} {n : Int} {e k : Nat} (hs : n ≠ 0 → s = decide (n < 0)) : signed s (n.natAbs * 2 ^ e) k = n * (2 ^ (e + k) : Nat) := by
  unfold signed
  rw [Nat.shiftLeft_eq, Nat.mul_assoc, ← Nat.pow_add]
  by_cases h0 : n = 0
  · subst h0; simp
  · rw [hs h0]
    by_cases hn : n < 0
    · rw [if_pos (by simpa using hn)]
      rw [Int.natCast_mul, show ((n.natAbs : Nat) : Int) = -n by omega, Int.neg_mul, Int.neg_neg]
    · rw [if_neg (by simpa using hn)]
      rw [Int.natCast_mul, show ((n.natAbs : Nat) : Int) = n by omega]

theorem Rl.sum {x y : Datum} {a b : Int} (hx : Rd x a) (hy : Rl y b) : ∃ z, x.sum y = some z ∧ Rd z (a + b) := by
  obtain ⟨e, rfl⟩ := hx
  obtain ⟨t, f, rfl, ht⟩ := hy
  have hb : min (-(e : Int)) (-(f : Int)) = -((max e f : Nat) : Int) := by omega
  have h1 : e + (-(e : Int) - -((max e f : Nat) : Int)).toNat = max e f := by omega
  have h2 : f + (-(f : Int) - -((max e f : Nat) : Int)).toNat = max e f := by omega
  unfold Datum.sum
  simp only [hb, signed_eq (fun _ => rfl), signed_eq ht, h1, h2, ← Int.add_mul]
  refine ⟨_, rfl, max e f, ?_⟩
  have hp : (0 : Int) < ((2 ^ max e f : Nat) : Int) := by have := Nat.two_pow_pos (max e f); omega
  by_cases h0 : a + b = 0
  · rw [h0]
    simp
    intro ha
    rw [ht (by omega)]
    simp
    omega
  · have hne : (a + b) * ((2 ^ max e f : Nat) : Int) ≠ 0 := Int.mul_ne_zero h0 (by omega)
    rw [if_neg hne]
    congr 1
    · by_cases hn : a + b < 0
      · have := Int.mul_neg_of_neg_of_pos hn hp
        simp only [this, hn]
      · have : ¬ (a + b) * ((2 ^ max e f : Nat) : Int) < 0 := by
          have := Int.mul_nonneg (show 0 ≤ a + b by omega) (Int.le_of_lt hp)
          omega
        simp only [this, hn]
    · rw [Int.natAbs_mul]; simp

theorem Rd.mul {x y : Datum} {a b : Int} (hx : Rd x a) (hy : Rd y b) (ha : 0 ≤ a) (hb : 0 ≤ b) : ∃ z, x.product y = some z ∧ Rd z (a * b) := by
  obtain ⟨e, rfl⟩ := hx
  obtain ⟨f, rfl⟩ := hy
  refine ⟨_, rfl, e + f, ?_⟩
  have h0 := Int.mul_nonneg ha hb
  have e1 : decide (a * b < 0) = (decide (a < 0) ^^ decide (b < 0)) := by simp [show ¬ a < 0 by omega, show ¬ b < 0 by omega, show ¬ a * b < 0 by omega]
  have e2 : (a * b).natAbs * 2 ^ (e + f) = a.natAbs * 2 ^ e * (b.natAbs * 2 ^ f) := by rw [Int.natAbs_mul, Nat.pow_add]; ac_rfl
  have e3 : -((e + f : Nat) : Int) = -(e : Int) + -(f : Int) := by omega
  rw [e1, e2, e3]

theorem Rd.order {x y : Datum} {a b : Int} (hx : Rd x a) (hy : Rd y b) : x.order y = some (compare a b) := by
  obtain ⟨e, rfl⟩ := hx
  obtain ⟨f, rfl⟩ := hy
  have hb : min (-(e : Int)) (-(f : Int)) = -((max e f : Nat) : Int) := by omega
  have h1 : e + (-(e : Int) - -((max e f : Nat) : Int)).toNat = max e f := by omega
  have h2 : f + (-(f : Int) - -((max e f : Nat) : Int)).toNat = max e f := by omega
  unfold Datum.order
  simp only [hb, signed_eq (fun _ => rfl), h1, h2]
  have hp : (0 : Int) < ((2 ^ max e f : Nat) : Int) := by have := Nat.two_pow_pos (max e f); omega
  congr 1
  simp only [compare, compareOfLessAndEq]
  have e1 : (a * ((2 ^ max e f : Nat) : Int) < b * ((2 ^ max e f : Nat) : Int)) = (a < b) := propext ⟨fun h => Int.lt_of_mul_lt_mul_right h (Int.le_of_lt hp), fun h => Int.mul_lt_mul_of_pos_right h hp⟩
  have e2 : (a * ((2 ^ max e f : Nat) : Int) = b * ((2 ^ max e f : Nat) : Int)) = (a = b) := propext ⟨fun h => Int.eq_of_mul_eq_mul_right (by omega) h, fun h => by rw [h]⟩
  simp only [e1, e2]

/-! ### the laws on words -/
theorem add_F {a b : Int} (ha : a.natAbs < 2 ^ 53) (hb : b.natAbs < 2 ^ 53) (hc : (a + b).natAbs < 2 ^ 53) : double.add (F a) (F b) = some (F (a + b)) := by
  obtain ⟨z, hz, hr⟩ := Rl.sum (read_F a ha) (read_F b hb).l
  unfold Format.add
  rw [hz, Option.map_some, write_Rd hr hc]
theorem sub_F {a b : Int} (ha : a.natAbs < 2 ^ 53) (hb : b.natAbs < 2 ^ 53) (hc : (a - b).natAbs < 2 ^ 53) : double.sub (F a) (F b) = some (F (a - b)) := by
  obtain ⟨z, hz, hr⟩ := Rl.sum (read_F a ha) (read_F b hb).opposite
  unfold Format.sub
  rw [hz, Option.map_some, write_Rd (n := a - b) (by rw [Int.sub_eq_add_neg]; exact hr) hc]
theorem mul_F {a b : Int} (ha : a.natAbs < 2 ^ 53) (hb : b.natAbs < 2 ^ 53) (hc : (a * b).natAbs < 2 ^ 53) (h0 : 0 ≤ a) (h1 : 0 ≤ b) : double.mul (F a) (F b) = some (F (a * b)) := by
  obtain ⟨z, hz, hr⟩ := Rd.mul (read_F a ha) (read_F b hb) h0 h1
  unfold Format.mul
  rw [hz, Option.map_some, write_Rd hr hc]
theorem order_F {a b : Int} (ha : a.natAbs < 2 ^ 53) (hb : b.natAbs < 2 ^ 53) : double.order (F a) (F b) = some (compare a b) := Rd.order (read_F a ha) (read_F b hb)
end Go.Proofs.Ybulkbpfu
