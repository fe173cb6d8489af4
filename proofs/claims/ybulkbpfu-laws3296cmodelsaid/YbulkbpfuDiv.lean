/-
  math.Floor(a / b) on whole numbers 1 ≤ b ≤ a, b ≤ 8, a < 2^20: the whole quotient. No Go in sight.
-/
import Derived.Test.YbulkbpfuFloat
namespace Go.Proofs.Ybulkbpfu
open Ieee
set_option linter.unusedVariables false

/-- The whole quotient's digits, between its two bounds. -/
theorem kept_floor {a b e1 e2 c k : Nat} (hc : c + e2 = e1 + 55) (hc0 : 36 ≤ c) (hb : 0 < b) (hb8 : b ≤ 8) (hk : k = 54 ∨ k = 55) (hE : k ≤ 52 + c)
    (Q M low kept : Nat) (hQ : Q = a * 2 ^ e1 * 2 ^ 54 / (b * 2 ^ e2)) (hM : 2 * Q ≤ M ∧ M ≤ 2 * Q + 1) (hlow : low = M / 2 ^ (k - 52)) (hkept : low ≤ kept ∧ kept ≤ low + 1) :
    kept / 2 ^ (52 + c - k) = a / b := by
  obtain ⟨d, rfl⟩ : ∃ d, c = d + 1 := ⟨c - 1, by omega⟩
  have hn : 0 < b * 2 ^ e2 := Nat.mul_pos hb (Nat.two_pow_pos _)
  have hde : 2 ^ e1 * 2 ^ 54 = 2 ^ d * 2 ^ e2 := by rw [← Nat.pow_add, ← Nat.pow_add]; congr 1; omega
  have hD : a * 2 ^ e1 * 2 ^ 54 = a * 2 ^ d * 2 ^ e2 := by rw [Nat.mul_assoc, hde, Nat.mul_assoc]
  have hQ' : Q = a * 2 ^ d / b := by rw [hQ, hD, Nat.mul_div_mul_right _ _ (Nat.two_pow_pos _)]
  obtain ⟨q, hq⟩ : ∃ q, a / b = q := ⟨_, rfl⟩
  have h1 : q * b ≤ a := by rw [← hq]; exact Nat.div_mul_le_self a b
  have h2 : a < q * b + b := by rw [← hq]; exact Nat.lt_div_mul_add hb
  rw [hq]
  have hlo : q * 2 ^ d ≤ Q := by
    rw [hQ', Nat.le_div_iff_mul_le hb]
    calc q * 2 ^ d * b = (q * b) * 2 ^ d := by ac_rfl
      _ ≤ a * 2 ^ d := Nat.mul_le_mul_right _ h1
  have hhi : 8 * Q ≤ (8 * q + 7) * 2 ^ d := by
    have hx : 8 * a ≤ (8 * q + 7) * b := by
      have e2 : (8 * q + 7) * b = 8 * (q * b) + 7 * b := by rw [Nat.add_mul, Nat.mul_assoc]
      rw [e2]; omega
    have hy : Q * b ≤ a * 2 ^ d := by rw [hQ']; exact Nat.div_mul_le_self _ _
    have hz : 8 * Q * b ≤ (8 * q + 7) * 2 ^ d * b := by
      calc 8 * Q * b = 8 * (Q * b) := by rw [Nat.mul_assoc]
        _ ≤ 8 * (a * 2 ^ d) := Nat.mul_le_mul_left _ hy
        _ = (8 * a) * 2 ^ d := by rw [Nat.mul_assoc]
        _ ≤ ((8 * q + 7) * b) * 2 ^ d := Nat.mul_le_mul_right _ hx
        _ = (8 * q + 7) * 2 ^ d * b := by ac_rfl
    exact Nat.le_of_mul_le_mul_right hz hb
  have hbig : 2 ^ 35 ≤ 2 ^ d := Nat.pow_le_pow_right (by omega) (by omega)
  obtain ⟨g, hg⟩ : ∃ g, 2 ^ (k - 52) = g := ⟨_, rfl⟩
  have hgv : g = 4 ∨ g = 8 := by rcases hk with rfl | rfl <;> simp at hg <;> omega
  obtain ⟨z, hz⟩ : ∃ z, 2 ^ (52 + (d + 1) - k) = z := ⟨_, rfl⟩
  have hgz : z * g = 2 * 2 ^ d := by
    rw [← hz, ← hg, ← Nat.pow_add, show 52 + (d + 1) - k + (k - 52) = d + 1 by omega, Nat.pow_succ, Nat.mul_comm]
  have hz0 : 0 < z := by rw [← hz]; exact Nat.two_pow_pos _
  subst hlow
  rw [hz]
  rw [hg] at hkept
  obtain ⟨t, ht⟩ : ∃ t, 2 ^ d = t := ⟨_, rfl⟩
  rw [ht] at hlo hhi hbig hgz
  have hqt : (8 * q + 7) * t = 8 * (q * t) + 7 * t := by rw [Nat.add_mul, Nat.mul_assoc]
  rw [hqt] at hhi
  have l1 : M / g * g ≤ M := Nat.div_mul_le_self M g
  have hqz : q * z * g = 2 * (q * t) := by rw [Nat.mul_assoc, hgz]; ac_rfl
  refine Nat.div_eq_of_lt_le ?_ ?_
  · -- q * z ≤ kept
    refine Nat.le_trans ?_ hkept.1
    rw [Nat.le_div_iff_mul_le (by omega), hqz]
    omega
  · -- kept < (q + 1) * z
    have h3 : kept * g < (q + 1) * z * g := by
      have e3 : (q + 1) * z * g = 2 * (q * t) + 2 * t := by rw [Nat.add_mul, Nat.add_mul, hqz, Nat.one_mul, hgz]
      have e4 : kept * g ≤ M / g * g + g := by
        have := Nat.mul_le_mul_right g hkept.2
        rw [Nat.add_mul, Nat.one_mul] at this
        exact this
      rw [e3]
      have : 2 ^ 35 = 34359738368 := by decide
      omega
    exact Nat.lt_of_mul_lt_mul_right h3

theorem log2_norm {m : Nat} (hm0 : m ≠ 0) (hm : m < 2 ^ 53) : (m * 2 ^ (52 - m.log2)).log2 = 52 := by
  rw [log2_scale hm0]
  have := log2_small hm
  omega

/-- floor of a number that is not negative. -/
theorem down_number (m : Nat) (E : Nat) (hm : m.log2 = 52) (hE : E ≤ 52) : (Datum.number false m (-(E : Int))).integral .down = .number false (m / 2 ^ E) 0 := by
  show Datum.number false (Toward.down.cut false (m <<< (-(E : Int)).toNat) (-(-(E : Int))).toNat) 0 = _
  unfold Toward.cut
  rw [show (-(E : Int)).toNat = 0 by omega, show (-(-(E : Int))).toNat = E by omega, Nat.shiftLeft_zero, hm, show min E (52 + 2) = E by omega, Nat.one_shiftLeft]
  simp

theorem half_pow (x : Nat) : 9007199254740992 / 2 ^ (x + 1) = 4503599627370496 / 2 ^ x := by
  have h : (9007199254740992 : Nat) = 2 * 4503599627370496 := by decide
  rw [h, Nat.pow_succ']
  exact Nat.mul_div_mul_left _ _ (by decide)
/-- A word read back: kept digits at the place -E. -/
theorem read_kept (kept E : Nat) (h1 : 4503599627370496 ≤ kept) (h2 : kept ≤ 9007199254740992) (hE0 : 1 ≤ E) (hE : E ≤ 52) :
    ∃ (m : Nat) (i : Int), double.read (double.word false (min ((-(E : Int) - -1074).toNat * 4503599627370496 + kept) (2047 * 4503599627370496))) = .number false m i ∧ (Datum.number false m i).integral .down = .number false (kept / 2 ^ E) 0 := by
  have e1 : (-(E : Int) - -1074).toNat = 1074 - E := by omega
  rw [e1, show min ((1074 - E) * 4503599627370496 + kept) (2047 * 4503599627370496) = (1074 - E) * 4503599627370496 + kept by omega]
  rw [read_word _ _ (by omega), if_neg (by omega), if_pos (by omega)]
  by_cases h : kept = 9007199254740992
  · subst h
    refine ⟨_, _, rfl, ?_⟩
    have e2 : 4503599627370496 + ((1074 - E) * 4503599627370496 + 9007199254740992) % 4503599627370496 = 4503599627370496 := by omega
    have e3 : -1074 + (((((1074 - E) * 4503599627370496 + 9007199254740992) / 4503599627370496 - 1 : Nat)) : Int) = -((E - 1 : Nat) : Int) := by omega
    rw [e2, e3, down_number _ _ (by decide) (by omega)]
    obtain ⟨x, rfl⟩ : ∃ x, E = x + 1 := ⟨E - 1, by omega⟩
    rw [Nat.add_sub_cancel, half_pow]
  · refine ⟨_, _, rfl, ?_⟩
    have e2 : 4503599627370496 + ((1074 - E) * 4503599627370496 + kept) % 4503599627370496 = kept := by omega
    have e3 : -1074 + (((((1074 - E) * 4503599627370496 + kept) / 4503599627370496 - 1 : Nat)) : Int) = -(E : Int) := by omega
    have e4 : kept.log2 = 52 := (Nat.log2_eq_iff (by omega)).2 ⟨h1, by omega⟩
    rw [e2, e3, down_number _ _ e4 hE]

theorem even_cut_near (s : Bool) (n d : Nat) (hd : d ≤ n.log2 + 2) : n / 2 ^ d ≤ Toward.even.cut s n d ∧ Toward.even.cut s n d ≤ n / 2 ^ d + 1 := by
  unfold Toward.cut
  simp only [show min d (n.log2 + 2) = d by omega, Nat.one_shiftLeft]
  refine ⟨Nat.le_add_right _ _, Nat.add_le_add_left (Bool.toNat_le _) _⟩

theorem div_floor {a b : Nat} (ha : a < 2 ^ 20) (hb : 0 < b) (hb8 : b ≤ 8) (hab : b ≤ a) :
    ∃ (r m : Nat) (i : Int), double.div (F a) (F b) = some r ∧ double.read r = .number false m i ∧ (Datum.number false m i).integral .down = .number false (a / b) 0 := by
  have ha0 : a ≠ 0 := by omega
  have hb0 : b ≠ 0 := by omega
  have ha53 : a < 2 ^ 53 := by omega
  have hb53 : b < 2 ^ 53 := by omega
  have la : a.log2 ≤ 19 := by have := (Nat.log2_lt ha0 (k := 20)).2 ha; omega
  have lb : b.log2 ≤ 3 := by have := (Nat.log2_lt hb0 (k := 4)).2 (by omega); omega
  have ra : double.read (F (a : Int)) = .number false (a * 2 ^ (52 - a.log2)) (-((52 - a.log2 : Nat) : Int)) := by
    rw [F_W _ (by simpa using ha53), read_W _ _ (by simpa using ha53)]; simp [upOf, ha0]
  have rb : double.read (F (b : Int)) = .number false (b * 2 ^ (52 - b.log2)) (-((52 - b.log2 : Nat) : Int)) := by
    rw [F_W _ (by simpa using hb53), read_W _ _ (by simpa using hb53)]; simp [upOf, hb0]
  have na := kept_range ha0 ha53
  have nb := kept_range hb0 hb53
  have ka := log2_norm ha0 ha53
  have kb := log2_norm hb0 hb53
  obtain ⟨e1, he1⟩ : ∃ e, 52 - a.log2 = e := ⟨_, rfl⟩
  obtain ⟨e2, he2⟩ : ∃ e, 52 - b.log2 = e := ⟨_, rfl⟩
  rw [he1] at ra na ka
  rw [he2] at rb nb kb
  have hn0 : b * 2 ^ e2 ≠ 0 := by omega
  unfold Format.div
  rw [ra, rb]
  unfold Datum.quotient
  simp only [if_neg hn0, Option.map_some]
  rw [kb, ka, show double.fractionBits + 2 + 52 - 52 = 54 by decide]
  simp only [Nat.shiftLeft_eq]
  obtain ⟨Q, hQ⟩ : ∃ Q, a * 2 ^ e1 * 2 ^ 54 / (b * 2 ^ e2) = Q := ⟨_, rfl⟩
  obtain ⟨st, hst⟩ : ∃ st, (a * 2 ^ e1 * 2 ^ 54 % (b * 2 ^ e2) != 0).toNat = st := ⟨_, rfl⟩
  have hst1 : st ≤ 1 := by rw [← hst]; exact Bool.toNat_le _
  have hQlo : 2 ^ 53 ≤ Q := by
    rw [← hQ, Nat.le_div_iff_mul_le (by omega)]
    generalize a * 2 ^ e1 = x at na
    generalize b * 2 ^ e2 = y at nb
    omega
  have hQhi : Q < 2 ^ 55 := by
    rw [← hQ, Nat.div_lt_iff_lt_mul (by omega)]
    generalize a * 2 ^ e1 = x at na
    generalize b * 2 ^ e2 = y at nb
    omega
  rw [hQ, hst]
  obtain ⟨M, hM⟩ : ∃ M, 2 * Q + st = M := ⟨_, rfl⟩
  rw [hM]
  have hM0 : M ≠ 0 := by omega
  have hk : M.log2 = 54 ∨ M.log2 = 55 := by
    have h1 : 54 ≤ M.log2 := (Nat.le_log2 hM0).2 (by omega)
    have h2 : M.log2 < 56 := (Nat.log2_lt hM0).2 (by omega)
    omega
  obtain ⟨c, hc⟩ : ∃ c, c + e2 = e1 + 55 := ⟨e1 + 55 - e2, by omega⟩
  have hcM : 2 ^ c ≤ M := by
    have h1 : 2 ^ (c - 1) ≤ Q := by
      rw [← hQ, Nat.le_div_iff_mul_le (by omega)]
      calc 2 ^ (c - 1) * (b * 2 ^ e2) = b * (2 ^ (c - 1) * 2 ^ e2) := by ac_rfl
        _ = b * (2 ^ e1 * 2 ^ 54) := by rw [← Nat.pow_add, ← Nat.pow_add]; congr 2; omega
        _ ≤ a * (2 ^ e1 * 2 ^ 54) := Nat.mul_le_mul_right _ hab
        _ = a * 2 ^ e1 * 2 ^ 54 := by rw [Nat.mul_assoc]
    have : 2 ^ c = 2 ^ (c - 1) * 2 := by rw [← Nat.pow_succ]; congr 1; omega
    omega
  have hck : c ≤ M.log2 := (Nat.le_log2 hM0).2 hcM
  have hplace : -(e1 : Int) - -(e2 : Int) - ((54 : Nat) : Int) - 1 = -(c : Int) := by omega
  rw [hplace]
  have hcut := even_cut_near false M (M.log2 - 52) (by omega)
  have hfl := kept_floor (a := a) (b := b) hc (by omega) hb hb8 hk (by omega) Q M _ _ hQ.symm ⟨by omega, by omega⟩ rfl hcut
  have hkr : 4503599627370496 ≤ Toward.even.cut false M (M.log2 - 52) ∧ Toward.even.cut false M (M.log2 - 52) ≤ 9007199254740992 := by
    have h1 := Nat.log2_self_le hM0
    have h2 := @Nat.lt_log2_self M
    have h3 : 2 ^ 52 ≤ M / 2 ^ (M.log2 - 52) := by
      rw [Nat.le_div_iff_mul_le (Nat.two_pow_pos _), ← Nat.pow_add, show 52 + (M.log2 - 52) = M.log2 by omega]; exact h1
    have h4 : M / 2 ^ (M.log2 - 52) < 2 ^ 53 := by
      rw [Nat.div_lt_iff_lt_mul (Nat.two_pow_pos _), ← Nat.pow_add, show 53 + (M.log2 - 52) = M.log2 + 1 by omega]; exact h2
    omega
  obtain ⟨m, i, hr, hd⟩ := read_kept _ (52 + c - M.log2) hkr.1 hkr.2 (by omega) (by omega)
  rw [hfl] at hd
  refine ⟨_, m, i, rfl, ?_, hd⟩
  rw [← hr]
  congr 1
  show double.nearest false M (-(c : Int)) = _
  unfold Format.nearest
  rw [if_neg hM0, least, bin, infR, frac]
  have hlast : max (-(c : Int) + (M.log2 : Int) - ((52 : Nat) : Int)) (-1074) = -((52 + c - M.log2 : Nat) : Int) := by omega
  simp only [hlast]
  rw [show (-(c : Int) - -((52 + c - M.log2 : Nat) : Int)).toNat = 0 by omega, show (-((52 + c - M.log2 : Nat) : Int) - -(c : Int)).toNat = M.log2 - 52 by omega, Nat.shiftLeft_zero]
end Go.Proofs.Ybulkbpfu
