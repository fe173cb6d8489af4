import Derived.Test.YbulkbpfuRestart
namespace Go.Proofs.Ybulkbpfu
open Go.ChangeShapes Go.WideShapes Go.ChangeAt Go.RowKit
set_option linter.unusedVariables false

theorem lt_true {a b : Int} (ha : a.natAbs < 2 ^ 53) (hb : b.natAbs < 2 ^ 53) (h : a < b) : (FloatKind.f64.format.order (F a) (F b) == some .lt) = true := by
  have := order_F ha hb
  rw [show FloatKind.f64.format = Ieee.double from rfl, this]
  simp [compare, compareOfLessAndEq, h]
theorem lt_false {a b : Int} (ha : a.natAbs < 2 ^ 53) (hb : b.natAbs < 2 ^ 53) (h : b ≤ a) : (FloatKind.f64.format.order (F a) (F b) == some .lt) = false := by
  have := order_F ha hb
  rw [show FloatKind.f64.format = Ieee.double from rfl, this]
  simp only [compare, compareOfLessAndEq, show ¬ a < b by omega, if_false]
  split <;> rfl
theorem ne_same {a : Int} (ha : a.natAbs < 2 ^ 53) : (FloatKind.f64.format.order (F a) (F a) != some .eq) = false := by
  have := order_F ha ha
  rw [show FloatKind.f64.format = Ieee.double from rfl, this]
  simp [compare, compareOfLessAndEq]
theorem run_add {P : Program} {a b : Int} (ha : a.natAbs < 2 ^ 53) (hb : b.natAbs < 2 ^ 53) (hc : (a + b).natAbs < 2 ^ 53) (t : TypeId) (w : World) : (binOp .add t (.float .f64 (F a)) (.float .f64 (F b))).run P w = .ok (.float .f64 (F (a + b))) w := run_float_arith w .add t .f64 _ _ _ (add_F ha hb hc)
theorem run_sub {P : Program} {a b : Int} (ha : a.natAbs < 2 ^ 53) (hb : b.natAbs < 2 ^ 53) (hc : (a - b).natAbs < 2 ^ 53) (t : TypeId) (w : World) : (binOp .sub t (.float .f64 (F a)) (.float .f64 (F b))).run P w = .ok (.float .f64 (F (a - b))) w := run_float_arith w .sub t .f64 _ _ _ (sub_F ha hb hc)
theorem run_mul {P : Program} {a b : Int} (ha : a.natAbs < 2 ^ 53) (hb : b.natAbs < 2 ^ 53) (hc : (a * b).natAbs < 2 ^ 53) (h0 : 0 ≤ a) (h1 : 0 ≤ b) (t : TypeId) (w : World) : (binOp .mul t (.float .f64 (F a)) (.float .f64 (F b))).run P w = .ok (.float .f64 (F (a * b))) w := run_float_arith w .mul t .f64 _ _ _ (mul_F ha hb hc h0 h1)

/-- What Advance and the law ask of the numbers. -/
structure Num (L f n : Int) : Prop where
  L0 : 1 ≤ L
  L1 : L ≤ 8
  f0 : -32768 ≤ f
  f1 : f ≤ 32767
  n0 : 0 ≤ n
  n1 : n ≤ 65535
  p0 : 0 ≤ n * L
  p1 : f + n * L ≤ 32767

set_option maxRecDepth 100000 in
set_option maxHeartbeats 4000000 in
/-- The first time starts the clock. -/
theorem adv_first (B T base : Nat) (L s now : Int) (v : Value) (k : Nat) (xs : List Value) (mp : Value) (p : Int) (w : World) (hN : Num L 0 0) (hB : Is w B 35 (mcells L false s 0 0 v)) (hT : Is w T 43 (tcells mp p)) (hV : Rows? w base 39 10 v k xs)
    (hBT : B ≠ T) (hvB : v.ownBlock ≠ some B) (hvT : v.ownBlock ≠ some T) (hbase : base ≤ w.heap.size) :
    Calls Yba.prog 6 #[.pointer (some ⟨B, 0, none⟩), .float .f64 (F now), .pointer (some ⟨T, 0, none⟩)] w fun e w' => e = .returned (.tuple #[.float .f64 (F 0), .bool false]) ∧ ∃ g off cap p', Is w' B 35 (mcells L true now now 0 (.slice (some ⟨g, off, none⟩) 1 cap)) ∧ Is w' T 43 (tcells mp p') ∧
      Row w' base 39 10 g off 1 cap (rds [0]) ∧ (v.ownBlock = some g ∨ w.heap.size ≤ g) ∧ Kp (fun k => k = B ∨ k = T ∨ v.ownBlock = some k) w w' := by
  obtain ⟨L0, L1, f0, f1, n0, n1, p0, p1⟩ := hN
  have m1 : ∀ t w, (binOp .mul t (.float .f64 (F 0)) (.float .f64 (F L))).run Yba.prog w = .ok (.float .f64 (F 0)) w := fun t w => by
    have := run_mul (P := Yba.prog) (a := 0) (b := L) (by omega) (by omega) (by omega) (by omega) (by omega) t w
    rw [Int.zero_mul] at this
    exact this
  have m2 : ∀ t w, (binOp .add t (.float .f64 (F 0)) (.float .f64 (F 0))).run Yba.prog w = .ok (.float .f64 (F 0)) w := fun t w => run_add (P := Yba.prog) (a := 0) (b := 0) (by omega) (by omega) (by omega) t w
  have c0 := hB.cell 0
  have c1 := hB.cell 1
  have c2 := hB.cell 2
  have c3 := hB.cell 3
  have c4 := hB.cell 4
  have q1 := hB.frozen 1
  have q2 := hB.frozen 2
  simp only [mcells, List.getElem?_toArray, List.getElem?_cons_zero, List.getElem?_cons_succ] at c0 c1 c2 c3 c4
  have HB := hide hB
  have HT := hide hT
  have HV := hide hV
  have H1 := hide (fun W => restart B T base L now 0 0 now true v k xs mp p W)
  clear hB hT hV
  go_enter Yba.func6, Yba.ntmps6
  go_wp2
  go_quiet (simp only [m1, m2])
  go_wp2_with fail
  refine (H1.out _ ?hb ?ht ?hv hBT hvB hvT ?hs).mono ?_
  case hb =>
    have h := (HB.out.set 1 (.bool true)).set 2 (.float .f64 (F now))
    simp only [mcells] at h ⊢
    exact h.heap rfl
  case ht => exact ((HT.out.other (Ne.symm hBT) 1 (.bool true)).other (Ne.symm hBT) 2 (.float .f64 (F now))).heap rfl
  case hv => exact HV.out.kept ((((Kp.refl (fun k => k = B) w).drewN _).set (p := ⟨B, 1, none⟩) (fun _ => rfl) (.bool true)).set (p := ⟨B, 2, none⟩) (fun _ => rfl) (.float .f64 (F now))) (fun g hg e => hvB (by rw [hg, e]))
  case hs => simpa [World.setCell] using hbase
  rintro e w2 ⟨rfl, g, off, cap, p2, hB2, hT2, hR2, hg2, hk2⟩
  have HB2 := hide hB2
  have HT2 := hide hT2
  have HR2 := hide hR2
  have HK2 := hide hk2
  clear hB2 hT2 hR2 hk2
  go_wp2
  go_ret2
  refine ⟨by simp [F0], g, off, cap, p2, HB2.out, HT2.out, HR2.out, ?_, ?_⟩
  · rcases hg2 with h | h
    · exact .inl h
    · right; simpa [World.setCell] using h
  · exact ((((Kp.refl (fun k => k = B ∨ k = T ∨ v.ownBlock = some k) w).drewN _).set (p := ⟨B, 1, none⟩) (fun _ => .inl rfl) (.bool true)).set (p := ⟨B, 2, none⟩) (fun _ => .inl rfl) (.float .f64 (F now))).trans HK2.out

set_option maxRecDepth 100000 in
set_option maxHeartbeats 4000000 in
/-- More than a minute back: the minutes start afresh. -/
theorem adv_back (B T base : Nat) (L s f n now : Int) (v : Value) (k : Nat) (xs : List Value) (mp : Value) (p : Int) (w : World) (hN : Num L f n) (hnow : -32768 ≤ now ∧ now ≤ 32767) (hlt : now < f + n * L - L) (hB : Is w B 35 (mcells L true s f n v)) (hT : Is w T 43 (tcells mp p)) (hV : Rows? w base 39 10 v k xs)
    (hBT : B ≠ T) (hvB : v.ownBlock ≠ some B) (hvT : v.ownBlock ≠ some T) (hbase : base ≤ w.heap.size) :
    Calls Yba.prog 6 #[.pointer (some ⟨B, 0, none⟩), .float .f64 (F now), .pointer (some ⟨T, 0, none⟩)] w fun e w' => e = .returned (.tuple #[.float .f64 (F 0), .bool false]) ∧ ∃ g off cap p', Is w' B 35 (mcells L true s now 0 (.slice (some ⟨g, off, none⟩) 1 cap)) ∧ Is w' T 43 (tcells mp p') ∧
      Row w' base 39 10 g off 1 cap (rds [0]) ∧ (v.ownBlock = some g ∨ w.heap.size ≤ g) ∧ Kp (fun k => k = B ∨ k = T ∨ v.ownBlock = some k) w w' := by
  obtain ⟨L0, L1, f0, f1, n0, n1, p0, p1⟩ := hN
  have m1 := run_mul (P := Yba.prog) (a := n) (b := L) (by omega) (by omega) (by omega) (by omega) (by omega)
  have m2 := run_add (P := Yba.prog) (a := f) (b := n * L) (by omega) (by omega) (by omega)
  have m3 := run_sub (P := Yba.prog) (a := f + n * L) (b := L) (by omega) (by omega) (by omega)
  have o1 := lt_true (a := now) (b := f + n * L - L) (by omega) (by omega) hlt
  have c0 := hB.cell 0
  have c1 := hB.cell 1
  have c3 := hB.cell 3
  have c4 := hB.cell 4
  simp only [mcells, List.getElem?_toArray, List.getElem?_cons_zero, List.getElem?_cons_succ] at c0 c1 c3 c4
  have HB := hide hB
  have HT := hide hT
  have HV := hide hV
  have H1 := hide (fun W => restart B T base L s f n now true v k xs mp p W)
  clear hB hT hV
  go_enter Yba.func6, Yba.ntmps6
  go_wp2
  go_quiet (simp only [m1, m2])
  go_wp2_with (simp only [m3])
  refine (H1.out _ (by exact HB.out) (by exact HT.out) (by exact HV.out.kept ((Kp.refl (fun _ => False) w).drewN _) (fun _ _ h => h)) hBT hvB hvT (by exact hbase)).mono ?_
  rintro e w2 ⟨rfl, g, off, cap, p2, hB2, hT2, hR2, hg2, hk2⟩
  have HB2 := hide hB2
  have HT2 := hide hT2
  have HR2 := hide hR2
  have HK2 := hide hk2
  clear hB2 hT2 hR2 hk2
  go_wp2
  go_ret2
  exact ⟨by simp [F0], g, off, cap, p2, HB2.out, HT2.out, HR2.out, hg2, ((Kp.refl (fun k => k = B ∨ k = T ∨ v.ownBlock = some k) w).drewN _).trans HK2.out⟩

set_option maxRecDepth 100000 in
set_option maxHeartbeats 4000000 in
/-- Nothing ends. -/
theorem adv_none (B T : Nat) (L s f n now : Int) (v : Value) (w : World) (hN : Num L f n) (hnow : -32768 ≤ now ∧ now ≤ 32767) (hlt : f + n * L - L ≤ now) (hlt2 : now < f + n * L + L) (hB : Is w B 35 (mcells L true s f n v)) :
    Calls Yba.prog 6 #[.pointer (some ⟨B, 0, none⟩), .float .f64 (F now), .pointer (some ⟨T, 0, none⟩)] w fun e w' => e = .returned (.tuple #[.float .f64 (F 0), .bool false]) ∧ Kp (fun _ => False) w w' := by
  obtain ⟨L0, L1, f0, f1, n0, n1, p0, p1⟩ := hN
  have m1 := run_mul (P := Yba.prog) (a := n) (b := L) (by omega) (by omega) (by omega) (by omega) (by omega)
  have m2 := run_add (P := Yba.prog) (a := f) (b := n * L) (by omega) (by omega) (by omega)
  have m3 := run_sub (P := Yba.prog) (a := f + n * L) (b := L) (by omega) (by omega) (by omega)
  have m4 := run_add (P := Yba.prog) (a := f + n * L) (b := L) (by omega) (by omega) (by omega)
  have o1 := lt_false (a := now) (b := f + n * L - L) (by omega) (by omega) hlt
  have o2 := lt_true (a := now) (b := f + n * L + L) (by omega) (by omega) hlt2
  have c0 := hB.cell 0
  have c1 := hB.cell 1
  have c3 := hB.cell 3
  have c4 := hB.cell 4
  simp only [mcells, List.getElem?_toArray, List.getElem?_cons_zero, List.getElem?_cons_succ] at c0 c1 c3 c4
  clear hB
  go_enter Yba.func6, Yba.ntmps6
  go_wp2
  go_quiet (simp only [m1, m2])
  go_wp2_with (simp only [m3, m4])
  go_ret2
  exact ⟨by simp [F0], (Kp.refl _ w).drewN _⟩
end Go.Proofs.Ybulkbpfu
