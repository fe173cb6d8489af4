import Derived.Test.YbulkbpfuApp
namespace Go.Proofs.Ybulkbpfu
open Go.ChangeShapes Go.WideShapes Go.ChangeAt Go.RowKit
set_option linter.unusedVariables false

theorem Rows?.zero {w : World} {base : Nat} {e : TypeId} {size n : Nat} {v : Value} {xs : List Value} (h : Rows? w base e size v n xs) : ∃ a c, v = .slice a n c ∧ Rows? w base e size (.slice a 0 c) 0 [] ∧ (Value.slice a 0 c).ownBlock = v.ownBlock ∧ n ≤ c := by
  rcases h with ⟨rfl, rfl, rfl⟩ | ⟨g, off, cap, rfl, hr⟩
  · exact ⟨none, 0, rfl, .inl ⟨rfl, rfl, rfl⟩, rfl, Nat.le_refl _⟩
  · exact ⟨_, cap, rfl, .inr ⟨g, off, cap, rfl, hr.zero⟩, rfl, hr.room⟩

theorem new_cells (w : World) (t : TypeId) (c : Array Value) : ∀ j u, c.toList[j]? = some u → (w.alloc (.cells c t)).cell? ((⟨w.heap.size, 0, none⟩ : Addr).add j) = some u := by
  intro j u hu
  rw [Addr.add_lit, Nat.zero_add, (Is.new w t c).cell j, ← hu, Array.getElem?_toList]
theorem enter10 (args : Array Value) (w : World) : (callFunc 10 args).run Yba.prog w = .ok (.enter 10 args) w := by kernel_rfl
theorem enter11 (args : Array Value) (w : World) : (callFunc 11 args).run Yba.prog w = .ok (.enter 11 args) w := by kernel_rfl
theorem Kp.ofDrew {S : Nat → Prop} {w w' : World} (h : Kp S w.drew w') : Kp S w w' := ⟨h.os, h.tape, h.output, h.size, h.block⟩
theorem block_ne {v : Value} {g B m : Nat} (hg : v.ownBlock = some g ∨ m ≤ g) (hv : v.ownBlock ≠ some B) (hB : B < m) : ¬ g = B := by
  rintro rfl
  rcases hg with h | h
  · exact hv h
  · omega
/-- Counts, as one step of a region that draws. -/
theorem step_counts {ops : Array Oper} {o : Oper} {a : Act} {w : World} {K : Act → World → Prop} {Q : Exit → Act → World → Prop} {E : Prop} (hgd : o.guard = none) (x : Operand)
    (ho : o.op = .call { callee := .value (.func 10), args := #[x], argTypes := #[26] }) (T : Nat) (mp : Value) (p : Int) (hx : a.eval x = .pointer (some ⟨T, 0, none⟩)) (hT : Is w T 43 (tcells mp p))
    (h : ∀ w', Kp (fun _ => False) w w' → K (a.put o.dst (.agg #[.int .i64 0, .int .i64 0, .int .i64 0, .int .i64 0, .int .i64 0, .int .i64 0, .int .i64 0, .int .i64 0, .int .i64 0])) w') : if Region.wanted o (yielded ops a.tmps) = true then Oper.wp Yba.prog o a w K Q else E := by
  have hw : Region.wanted o (yielded ops a.tmps) = true := by simp [Region.wanted, hgd]
  rw [if_pos hw]
  have hrun : (execOp a.eval o).run Yba.prog w = .ok (.enter 10 #[.pointer (some ⟨T, 0, none⟩)]) w := by
    have he : a.eval (.func 10) = .func (.func 10) #[] #[] := rfl
    simp [execOp, ho, resolve, invoke, hx, he, Deferred.ofValue]
  unfold Oper.wp
  rw [hrun, Oper.upon_enter]
  refine (counts T mp p w hT).mono ?_
  rintro e w' ⟨rfl, hk⟩
  exact h w' hk
/-- The cells of a Minutes. -/
def mcells (L : Int) (st : Bool) (s f n : Int) (v : Value) : Array Value := #[.float .f64 (F L), .bool st, .float .f64 (F s), .float .f64 (F f), .float .f64 (F n), v]

set_option maxRecDepth 100000 in
set_option maxHeartbeats 4000000 in
theorem restart (B T base : Nat) (L s f n now : Int) (st : Bool) (v : Value) (k : Nat) (xs : List Value) (mp : Value) (p : Int) (w : World) (hB : Is w B 35 (mcells L st s f n v)) (hT : Is w T 43 (tcells mp p)) (hV : Rows? w base 39 10 v k xs)
    (hBT : B ≠ T) (hvB : v.ownBlock ≠ some B) (hvT : v.ownBlock ≠ some T) (hbase : base ≤ w.heap.size) :
    Calls Yba.prog 8 #[.pointer (some ⟨B, 0, none⟩), .float .f64 (F now), .pointer (some ⟨T, 0, none⟩)] w fun e w' => e = .returned (.tuple #[]) ∧ ∃ g off cap p', Is w' B 35 (mcells L st s now 0 (.slice (some ⟨g, off, none⟩) 1 cap)) ∧ Is w' T 43 (tcells mp p') ∧
      Row w' base 39 10 g off 1 cap (rds [0]) ∧ (v.ownBlock = some g ∨ w.heap.size ≤ g) ∧ Kp (fun k => k = B ∨ k = T ∨ v.ownBlock = some k) w w' := by
  obtain ⟨i0, hi, hz0, hz1, hz2⟩ := info_parts info39
  obtain ⟨va, vc, rfl, hV0, hown, hkc⟩ := hV.zero
  have hV := hV0
  rw [← hown] at hvB hvT
  clear hV0
  have H1 := hide (endPeriod T mp p w hT)
  have HB := hide hB
  have HV := hide hV
  clear hB hT hV
  go_enter Yba.func8, Yba.ntmps8
  go_wp2_with fail
  refine H1.out.mono ?_
  rintro e w1 ⟨rfl, ⟨p1, hT1⟩, hk1⟩
  have HT1 := hide hT1
  have hB1 := hk1.is HB.out hBT
  have HB1 := hide hB1
  have HV1 := hide (HV.out.kept hk1 (fun g hg e => hvT (by rw [hg, e])))
  have HK1 := hide hk1
  have c3 := hB1.cell 3
  have c4 := hB1.cell 4
  have c5 := hB1.cell 5
  have f3 := hB1.frozen 3
  have f4 := hB1.frozen 4
  have f5 := hB1.frozen 5
  simp [mcells] at c3 c4 c5
  clear H1 HB HV hT1 hk1 hB1
  go_wp2_with fail
  have hB2 : Is ((w1.setCell { block := B, off := 3 } (Value.float FloatKind.f64 (F now))).setCell { block := B, off := 4 } (Value.float FloatKind.f64 0)) B 35 (mcells L st s now 0 (.slice va k vc)) := by
    have h := (HB1.out.set 3 (.float .f64 (F now))).set 4 (.float .f64 0)
    simp only [mcells, F0] at h ⊢
    exact h
  have HK2 := hide (((HK1.out.mono (S' := fun k => k = B ∨ k = T) (fun _ h => .inr h)).set (p := ⟨B, 3, none⟩) (fun _ => .inl rfl) (.float .f64 (F now))).set (p := ⟨B, 4, none⟩) (fun _ => .inl rfl) (.float .f64 0))
  have HT2 := hide ((HT1.out.other (Ne.symm hBT) 3 (.float .f64 (F now))).other (Ne.symm hBT) 4 (.float .f64 0))
  have HV2 := hide (HV1.out.kept (((Kp.refl (fun k => k = B) w1).set (p := ⟨B, 3, none⟩) (fun _ => rfl) (.float .f64 (F now))).set (p := ⟨B, 4, none⟩) (fun _ => rfl) (.float .f64 0)) (fun g hg e => hvB (by rw [hg, e])))
  generalize (w1.setCell { block := B, off := 3 } (Value.float FloatKind.f64 (F now))).setCell { block := B, off := 4 } (Value.float FloatKind.f64 0) = w2 at *
  have HB2 := hide hB2
  have d5 := hB2.cell 5
  have e5 := hB2.frozen 5
  simp [mcells] at d5
  have hbw : base ≤ w2.heap.size := Nat.le_trans hbase HK2.out.size
  clear c3 c4 c5 f3 f4 f5 HT1 HB1 HV1 HK1 hB2
  go_region_law (first
    | (refine step_counts rfl _ rfl T mp p1 rfl (by exact HT2.out) ?_; intro w3 hk3'; have hk3 := Kp.ofDrew hk3'; clear hk3'; have hB3 := hk3.is HB2.out (fun h => h); have HB3 := hide hB3; have g5 := hB3.cell 5; have q5 := hB3.frozen 5; simp [mcells] at g5; have HT3 := hide (hk3.is HT2.out (fun h => h)); have HV3 := hide (HV2.out.kept hk3 (fun _ _ h => h)); have HK3 := hide hk3; have hs3 := hk3.size; have hb3 : B < w3.heap.size := HB3.out.lt; clear hk3 hB3)
    | (refine step_append_row rfl _ _ 33 rfl base 39 i0 _ 10 80 Yba.underlying33 hi hz0 hz1 hz2 rfl (by decide) _ 0 [] rfl (by exact HV3.out.kept ((Kp.refl (fun _ => False) _).alloc _) (fun _ _ h => h)) _ 1 1 (.float .f64 0 :: c0s.toList) rfl rfl (by exact new_cells _ 39 _) (by decide) (by decide) (by decide) (by decide) (by rw [Deep.nblk_alloc]; omega) ?_; intro g4 off4 cap4 w4 hR4 hk4 hg4; have hB4 := hk4.is (HB3.out.alloc _) hvB; have HB4 := hide hB4; have p5 := hB4.cell 5; have t5 := hB4.frozen 5; simp [mcells] at p5; have HT4 := hide (hk4.is (HT3.out.alloc _) hvT); have HR4 := hide hR4; have HK4 := hide hk4; have hgB := block_ne hg4 hvB (by rw [Deep.nblk_alloc]; omega); clear hk4 hB4 hR4))
  all_goals (
    go_end0
    refine ⟨rfl, g4, off4, cap4, p1, ?_, ?_, ?_, ?_, ?_⟩
    · have h := HB4.out.set 5 (.slice (some ⟨g4, off4, none⟩) 1 cap4)
      simp only [mcells] at h ⊢
      exact h.heap rfl
    · exact HT4.out.other (Ne.symm hBT) _ _
    · have h := HR4.out.kept ((Kp.refl (fun k => k = B) w4).set (p := ⟨B, 5, none⟩) (fun _ => rfl) (.slice (some ⟨g4, off4, none⟩) 1 cap4)) hgB
      simpa [rds, rd, F0] using h
    · rcases hg4 with h | h
      · exact .inl (by rw [← hown]; exact h)
      · right
        rw [Deep.nblk_alloc] at h
        have := HK2.out.size
        omega
    · refine Kp.set (p := ⟨B, 5, none⟩) ?_ (fun _ => .inl rfl) _
      refine ((HK2.out.mono (fun k h => h.elim .inl (fun h => .inr (.inl h)))).trans ((HK3.out.mono (fun _ h => h.elim)).alloc _)).trans (HK4.out.mono (fun k h => .inr (.inr (by rw [← hown]; exact h)))))
end Go.Proofs.Ybulkbpfu
