import Derived.Test.YbulkbpfuAdv
import Derived.Deep.DeepCutAuto
namespace Go.Proofs.Ybulkbpfu
open Go.ChangeShapes Go.WideShapes Go.ChangeAt Go.RowKit
set_option linter.unusedVariables false

/-- Behind the append: the minutes' cells with the new slice, the row, and what was left alone. -/
def App (w wx : World) (B T base : Nat) (L s f n : Int) (mp : Value) (v : Value) (l : List Int) : Prop :=
  ∃ g off cap p, Is wx B 35 (mcells L true s f n (.slice (some ⟨g, off, none⟩) l.length cap)) ∧ Is wx T 43 (tcells mp p) ∧ Row wx base 39 10 g off l.length cap (rds l) ∧ g ≠ B ∧ g ≠ T ∧ (v.ownBlock = some g ∨ w.heap.size ≤ g) ∧ Kp (fun k => k = B ∨ k = T ∨ v.ownBlock = some k) w wx

theorem rds_snoc (l : List Int) (x : Int) : rds l ++ rd x = rds (l ++ [x]) := by simp [rds]
theorem app_done {w w1 w3 w4 : World} {B T base : Nat} {L s f n : Int} {mp v : Value} {l : List Int} {x : Int} {g off cap : Nat} {p : Int} {o : Obj} {v' : Value}
    (hB : Is w4 B 35 (mcells L true s f n v')) (hT : Is w4 T 43 (tcells mp p)) (hR : Row w4 base 39 10 g off (l.length + 1) cap (rds l ++ rd x)) (hg : v.ownBlock = some g ∨ (w3.alloc o).heap.size ≤ g)
    (k1 : Kp (fun k => k = T) w w1) (k3 : Kp (fun _ => False) w1 w3) (k4 : Kp (fun k => v.ownBlock = some k) (w3.alloc o) w4) {t1 t2 : TypeId} {c1 c2 : Array Value} (hB1 : Is w1 B t1 c1) (hT1 : Is w1 T t2 c2) (hvB : v.ownBlock ≠ some B) (hvT : v.ownBlock ≠ some T) (hBT : B ≠ T) :
    App w (w4.setCell ⟨B, 5, none⟩ (.slice (some ⟨g, off, none⟩) (l.length + 1) cap)) B T base L s f n mp v (l ++ [x]) := by
  have s1 := k1.size
  have s3 := k3.size
  have b1 := hB1.lt
  have t1 := hT1.lt
  have hgB : ¬ g = B := block_ne hg hvB (by rw [Deep.nblk_alloc]; omega)
  have hgT : ¬ g = T := block_ne hg hvT (by rw [Deep.nblk_alloc]; omega)
  have e : (l ++ [x]).length = l.length + 1 := by simp
  refine ⟨g, off, cap, p, ?_, hT.other (Ne.symm hBT) _ _, ?_, hgB, hgT, ?_, ?_⟩
  · have h := hB.set 5 (.slice (some ⟨g, off, none⟩) (l.length + 1) cap)
    simp only [mcells] at h ⊢
    rw [e]
    exact h
  · rw [e, ← rds_snoc]
    exact hR.kept ((Kp.refl (fun k => k = B) w4).set (p := ⟨B, 5, none⟩) (fun _ => rfl) _) hgB
  · rcases hg with h | h
    · exact .inl h
    · right
      rw [Deep.nblk_alloc] at h
      omega
  · refine Kp.set (p := ⟨B, 5, none⟩) ?_ (fun _ => .inl rfl) _
    exact ((k1.mono (fun k h => .inr (.inl h))).trans ((k3.mono (fun _ h => h.elim)).alloc _)).trans (k4.mono (fun k h => .inr (.inr h)))

theorem run_max_F {P : Program} {a b : Int} (ha : a.natAbs < 2 ^ 53) (hb : b.natAbs < 2 ^ 53) (h : a ≤ b) (ts : Array TypeId) (t : TypeId) (w : World) : (Builtin.max_ ts t #[.float .f64 (F a), .float .f64 (F b)]).run P w = .ok (.float .f64 (F b)) w := by
  have e : Builtin.max_ ts t #[.float .f64 (F a), .float .f64 (F b)] = (Builtin.max2 (.float .f64 (F a)) (.float .f64 (F b)) >>= fun x => pure x) := rfl
  have o := order_F ha hb
  have e2 : Builtin.max2 (.float .f64 (F a)) (.float .f64 (F b)) = pure (.float .f64 (F b)) := by
    unfold Builtin.max2
    dsimp only
    rw [show FloatKind.f64.format.order (F a) (F b) = some (compare a b) from o]
    by_cases hlt : a < b
    · simp [compare, compareOfLessAndEq, hlt]
    · have : a = b := by omega
      subst this
      simp [compare, compareOfLessAndEq]
  rw [e, e2]
  rfl
/-- math.Floor, as one step of a region that draws. -/
theorem step_floor {ops : Array Oper} {o : Oper} {a : Act} {w : World} {K : Act → World → Prop} {Q : Exit → Act → World → Prop} {E : Prop} (hgd : o.guard = none) (x : Operand)
    (ho : o.op = .call { callee := .value (.func 11), args := #[x], argTypes := #[25] }) (r m q : Nat) (i : Int) (hr : Ieee.double.read r = .number false m i) (hd : (Ieee.Datum.number false m i).integral .down = .number false q 0) (hq : q < 2 ^ 53) (hx : a.eval x = .float .f64 r)
    (h : K (a.put o.dst (.float .f64 (F q))) w) : if Region.wanted o (yielded ops a.tmps) = true then Oper.wp Yba.prog o a w K Q else E := by
  have hw : Region.wanted o (yielded ops a.tmps) = true := by simp [Region.wanted, hgd]
  rw [if_pos hw]
  have hrun : (execOp a.eval o).run Yba.prog w = .ok (.enter 11 #[.float .f64 r]) w := by
    have he : a.eval (.func 11) = .func (.func 11) #[] #[] := rfl
    simp [execOp, ho, resolve, invoke, hx, he, Deferred.ofValue]
  unfold Oper.wp
  rw [hrun, Oper.upon_enter]
  refine (floor r m q i hr hd hq w).mono ?_
  rintro e w' ⟨rfl, rfl⟩
  exact h

theorem step_floorE {ops : Array Oper} {o : Oper} {a : Act} {w : World} {K : Act → World → Prop} {Q : Exit → Act → World → Prop} {E : Prop} (hgd : o.guard = none) (x : Operand)
    (ho : o.op = .call { callee := .value (.func 11), args := #[x], argTypes := #[25] }) (r m q' : Nat) (q : Int) (i : Int) (hr : Ieee.double.read r = .number false m i) (hd : (Ieee.Datum.number false m i).integral .down = .number false q' 0) (hq : q' < 2 ^ 53) (hqe : q = (q' : Int)) (hx : a.eval x = .float .f64 r)
    (h : K (a.put o.dst (.float .f64 (F q))) w) : if Region.wanted o (yielded ops a.tmps) = true then Oper.wp Yba.prog o a w K Q else E := by
  subst hqe
  exact step_floor hgd x ho r m q' i hr hd hq hx h
theorem app_whole {w wc : World} {B T base : Nat} {L s f n q : Int} {mp v : Value} {l : List Int} {g off cap : Nat} {p : Int}
    (hB : Is wc B 35 (mcells L true s f n (.slice (some ⟨g, off, none⟩) l.length cap))) (hT : Is wc T 43 (tcells mp p)) (hR : Row wc base 39 10 g off l.length cap (rds l)) (hgB : g ≠ B) (hgT : g ≠ T) (hg : v.ownBlock = some g ∨ w.heap.size ≤ g) (hk : Kp (fun k => k = B ∨ k = T ∨ v.ownBlock = some k) w wc) (hBT : B ≠ T) :
    App w (wc.setCell ⟨B, 4, none⟩ (.float .f64 (F q))).drew B T base L s f q mp v l := by
  have h := hB.set 4 (.float .f64 (F q))
  simp only [mcells] at h
  exact ⟨g, off, cap, p, h.heap rfl, (hT.other (Ne.symm hBT) _ _).heap rfl, hR.kept (((Kp.refl (fun k => k = B) _).set (p := ⟨B, 4, none⟩) (fun _ => rfl) _).drew) hgB, hgB, hgT, hg, (hk.set (p := ⟨B, 4, none⟩) (fun _ => .inl rfl) _).drew⟩
theorem rds_at {l : List Int} {i : Nat} {x : Int} (h : l[i]? = some x) : (rds l)[i * 10]? = some (.float .f64 (F x)) := by
  induction l generalizing i with
  | nil => simp at h
  | cons a l ih =>
    simp only [rds, List.flatMap_cons]
    cases i with
    | zero => simp at h; subst h; simp [rd]
    | succ i =>
      rw [List.getElem?_append_right (by simp [rd, c0s]; omega)]
      have e : (i + 1) * 10 - (rd a).length = i * 10 := by simp [rd, c0s]; omega
      rw [e]
      exact ih (by simpa using h)
theorem leq_true {a b : Int} (ha : a.natAbs < 2 ^ 53) (hb : b.natAbs < 2 ^ 53) (h : a ≤ b) : (FloatKind.f64.format.order (F a) (F b) == some .lt || FloatKind.f64.format.order (F a) (F b) == some .eq) = true := by
  have := order_F ha hb
  rw [show FloatKind.f64.format = Ieee.double from rfl, this]
  by_cases hlt : a < b
  · simp [compare, compareOfLessAndEq, hlt]
  · have : a = b := by omega
    subst this
    simp [compare, compareOfLessAndEq]
theorem leq_false {a b : Int} (ha : a.natAbs < 2 ^ 53) (hb : b.natAbs < 2 ^ 53) (h : b < a) : (FloatKind.f64.format.order (F a) (F b) == some .lt || FloatKind.f64.format.order (F a) (F b) == some .eq) = false := by
  have := order_F ha hb
  rw [show FloatKind.f64.format = Ieee.double from rfl, this]
  simp [compare, compareOfLessAndEq, show ¬ a < b by omega, show ¬ a = b by omega]

/-- How many of the first ends are dropped. -/
def keepK (q : Int) : List Int → Nat
  | a :: b :: r => if b ≤ q - 15 then keepK q (b :: r) + 1 else 0
  | _ => 0
theorem drop2 {E : List Int} {j : Nat} {x : Int} (h : E[j + 1]? = some x) : ∃ a r, E.drop j = a :: x :: r ∧ E.drop (j + 1) = x :: r := by
  have hl : j + 1 < E.length := (List.getElem?_eq_some_iff.1 h).1
  have hx : E[j + 1] = x := (List.getElem?_eq_some_iff.1 h).2
  refine ⟨E[j], E.drop (j + 2), ?_, ?_⟩
  · rw [List.drop_eq_getElem_cons (by omega : j < E.length), List.drop_eq_getElem_cons hl, hx]
  · rw [List.drop_eq_getElem_cons hl, hx]
theorem keepK_step {q : Int} {E : List Int} {j : Nat} {x : Int} (h : E[j + 1]? = some x) (hq : x ≤ q - 15) : keepK q (E.drop j) = keepK q (E.drop (j + 1)) + 1 := by
  obtain ⟨a, r, h1, h2⟩ := drop2 h
  rw [h1, h2, keepK, if_pos hq]
theorem keepK_stop {q : Int} {E : List Int} {j : Nat} {x : Int} (h : E[j + 1]? = some x) (hq : ¬ x ≤ q - 15) : keepK q (E.drop j) = 0 := by
  obtain ⟨a, r, h1, h2⟩ := drop2 h
  rw [h1, keepK, if_neg hq]
theorem keepK_last {q : Int} {E : List Int} {j : Nat} (h : E.length ≤ j + 1) : keepK q (E.drop j) = 0 := by
  have hl : (E.drop j).length ≤ 1 := by simp; omega
  match hE : E.drop j, hl with
  | [], _ => rfl
  | [a], _ => rfl
  | a :: b :: r, hl => simp at hl

theorem rds_drop (l : List Int) (j : Nat) : (rds l).drop (j * 10) = rds (l.drop j) := by
  induction l generalizing j with
  | nil => simp [rds]
  | cons a l ih =>
    cases j with
    | zero => simp
    | succ j =>
      have e : (rd a).length = 10 := rfl
      simp only [List.drop_succ_cons, ← ih j]
      show (rd a ++ rds l).drop _ = _
      rw [List.drop_append, e, List.drop_eq_nil_of_le (by rw [e]; omega), List.nil_append]
      congr 1
      omega
theorem end_done {w wr : World} {B T base : Nat} {L s f q : Int} {mp v : Value} {E l' : List Int} {g off cap j : Nat} {p : Int} {n1 n2 : Nat}
    (hB : Is wr B 35 (mcells L true s f q (.slice (some ⟨g, off, none⟩) E.length cap))) (hT : Is wr T 43 (tcells mp p)) (hR : Row wr base 39 10 g off E.length cap (rds E)) (hg : g ≠ B ∧ g ≠ T ∧ (v.ownBlock = some g ∨ w.heap.size ≤ g)) (hk : Kp (fun k => k = B ∨ k = T ∨ v.ownBlock = some k) w wr) (hBT : B ≠ T)
    (hl : l' = E.drop (keepK q E)) (hj : keepK q E = j + keepK q (E.drop j)) (h0 : keepK q (E.drop j) = 0) (hjl : j ≤ E.length) (W : World) (hW : W = ((wr.drewN n1).setCell ⟨B, 5, none⟩ (.slice (some ⟨g, off + j * 10, none⟩) (E.length - j) (cap - j))).drewN n2) :
    ∃ g off cap p', Is W B 35 (mcells L true s f q (.slice (some ⟨g, off, none⟩) l'.length cap)) ∧ Is W T 43 (tcells mp p') ∧
      Row W base 39 10 g off l'.length cap (rds l') ∧ (v.ownBlock = some g ∨ w.heap.size ≤ g) ∧ Kp (fun k => k = B ∨ k = T ∨ v.ownBlock = some k) w W := by
  have e : l' = E.drop j := by rw [hl, hj, h0]; rfl
  subst e
  have hlen : (E.drop j).length = E.length - j := by simp
  refine ⟨g, off + j * 10, cap - j, p, ?_, ?_, ?_, hg.2.2, ?_⟩
  · have h := Is.set (w := wr.drewN n1) (hB.heap rfl) 5 (.slice (some ⟨g, off + j * 10, none⟩) (E.length - j) (cap - j))
    simp only [mcells] at h ⊢
    rw [hW, hlen]
    exact h.heap rfl
  · rw [hW]
    exact (Is.other (w := wr.drewN n1) (hT.heap rfl) (Ne.symm hBT) 5 _).heap rfl
  · rw [hlen, ← rds_drop, hW]
    exact (hR.drop j hjl).kept ((((Kp.refl (fun k => k = B) wr).drewN n1).set (p := ⟨B, 5, none⟩) (fun _ => rfl) _).drewN n2) hg.1
  · rw [hW]
    exact ((hk.drewN n1).set (p := ⟨B, 5, none⟩) (fun _ => .inl rfl) _).drewN n2

set_option maxRecDepth 100000 in
set_option maxHeartbeats 0 in
theorem adv_end (B T base : Nat) (L s f n now : Int) (v : Value) (l : List Int) (mp : Value) (p : Int) (w : World) (hN : Num L f n) (hnow : -32768 ≤ now ∧ now ≤ 32767) (hge : f + n * L + L ≤ now) (hB : Is w B 35 (mcells L true s f n v)) (hT : Is w T 43 (tcells mp p)) (hV : Rows? w base 39 10 v l.length (rds l))
    (hl : l.length ≤ 1024) (hl2 : ∀ x ∈ l, 0 ≤ x ∧ x ≤ 65536) (hBT : B ≠ T) (hvB : v.ownBlock ≠ some B) (hvT : v.ownBlock ≠ some T) (hbase : base ≤ w.heap.size) (q : Int) (hqd : q = (now - f) / L) (l' : List Int) (hl' : l' = (l ++ [n + 1]).drop (keepK q (l ++ [n + 1]))) :
    Calls Yba.prog 6 #[.pointer (some ⟨B, 0, none⟩), .float .f64 (F now), .pointer (some ⟨T, 0, none⟩)] w fun e w' => e = .returned (.tuple #[.float .f64 (F (f + q * L)), .bool true]) ∧ ∃ g off cap p', Is w' B 35 (mcells L true s f q (.slice (some ⟨g, off, none⟩) l'.length cap)) ∧ Is w' T 43 (tcells mp p') ∧
      Row w' base 39 10 g off l'.length cap (rds l') ∧ (v.ownBlock = some g ∨ w.heap.size ≤ g) ∧ Kp (fun k => k = B ∨ k = T ∨ v.ownBlock = some k) w w' := by
  obtain ⟨L0, L1, f0, f1, n0, n1, p0, p1⟩ := hN
  obtain ⟨i0, hi, hz0, hz1, hz2⟩ := info_parts info39
  have m1 := run_mul (P := Yba.prog) (a := n) (b := L) (by omega) (by omega) (by omega) (by omega) (by omega)
  have m2 := run_add (P := Yba.prog) (a := f) (b := n * L) (by omega) (by omega) (by omega)
  have m3 := run_sub (P := Yba.prog) (a := f + n * L) (b := L) (by omega) (by omega) (by omega)
  have m4 := run_add (P := Yba.prog) (a := f + n * L) (b := L) (by omega) (by omega) (by omega)
  have m5 : ∀ t w, (binOp .add t (.float .f64 (F n)) (.float .f64 4607182418800017408)).run Yba.prog w = .ok (.float .f64 (F (n + 1))) w := by
    have := run_add (P := Yba.prog) (a := n) (b := 1) (by omega) (by omega) (by omega)
    rwa [F1] at this
  have o1 := lt_false (a := now) (b := f + n * L - L) (by omega) (by omega) (by omega)
  have o2 := lt_false (a := now) (b := f + n * L + L) (by omega) (by omega) (by omega)
  have ho63 : l.length + 1 ≤ maxLen := by simp [maxLen]; omega
  have hoby : (l.length + 1) * 80 ≤ 140737488355328 := by omega
  have HN := hide (show (1 ≤ L ∧ L ≤ 8) ∧ (-32768 ≤ f ∧ f ≤ 32767) ∧ (0 ≤ n ∧ n ≤ 65535) ∧ (0 ≤ n * L ∧ f + n * L ≤ 32767) ∧ (-32768 ≤ now ∧ now ≤ 32767) ∧ f + n * L + L ≤ now ∧ l.length ≤ 1024 by omega)
  have HL2 := hide hl2
  have HQD := hide hqd
  have HL' := hide hl'
  clear L0 L1 f0 f1 n0 n1 p0 p1 hnow hge hl hl2 hqd hl'
  have c0 := hB.cell 0
  have c1 := hB.cell 1
  have c3 := hB.cell 3
  have c4 := hB.cell 4
  simp only [mcells, List.getElem?_toArray, List.getElem?_cons_zero, List.getElem?_cons_succ] at c0 c1 c3 c4
  have HB := hide hB
  have HT := hide hT
  have HV := hide hV
  have H1 := hide (fun W => endPeriod T mp p W)
  clear hB hT hV
  go_enter Yba.func6, Yba.ntmps6
  go_wp2
  go_quiet (simp only [m1, m2])
  go_wp2_with (simp only [m3, m4])
  refine (H1.out _ (by exact HT.out)).mono ?_
  rintro e w1 ⟨rfl, ⟨p1, hT1⟩, hk1'⟩
  have hk1 : Kp (fun k => k = T) w w1 := ⟨hk1'.os, hk1'.tape, hk1'.output, hk1'.size, hk1'.block⟩
  have hB1 := hk1.is HB.out hBT
  have HT1 := hide hT1
  have HB1 := hide hB1
  have HV1 := hide (HV.out.kept hk1 (fun g hg e => hvT (by rw [hg, e])))
  have HK1 := hide hk1
  have hbw : base ≤ w1.heap.size := Nat.le_trans hbase hk1.size
  have Hhvb := hide hvB
  have Hhvt := hide hvT
  have Hbw := hide hbw
  clear hk1 hk1' hT1 H1 HB HV HT c0 c1 c3 c4 m1 m2 m3 m4 o1 o2 hvB hvT hbw hbase
  have c4 := hB1.cell 4
  have c5 := hB1.cell 5
  have q5 := hB1.frozen 5
  simp only [mcells, List.getElem?_toArray, List.getElem?_cons_zero, List.getElem?_cons_succ] at c4 c5
  clear hB1
  go_upto_region 12 with fail
  go_cut [] (fun wx => App w wx B T base L s f n mp v (l ++ [n + 1]))
  case first =>
    go_region_law (first
      | (refine step_counts rfl (.tmp 75) rfl T mp p1 (by simp [Act.eval, Act.put]) (by exact HT1.out) ?_; intro w3 hk3'; have hk3 := Kp.ofDrew hk3'; clear hk3'; have hB3 := hk3.is HB1.out (fun h => h); have HB3 := hide hB3; have g4 := hB3.cell 4; have g5 := hB3.cell 5; have g5a := fun o => (hB3.alloc o).cell 5; have r5 := hB3.frozen 5; simp only [mcells, List.getElem?_toArray, List.getElem?_cons_zero, List.getElem?_cons_succ] at g4 g5 g5a; have HT3 := hide (hk3.is HT1.out (fun h => h)); have HV3 := hide (HV1.out.kept hk3 (fun _ _ h => h)); have HK3 := hide hk3; clear hk3 hB3)
      | (refine step_append_row rfl (.tmp 69) (.tmp 78) 33 rfl base 39 i0 _ 10 80 Yba.underlying33 hi hz0 hz1 hz2 rfl (by decide) v l.length (rds l) rfl (by exact HV3.out.kept ((Kp.refl (fun _ => False) _).alloc _) (fun _ _ h => h)) _ 1 1 (rd (n + 1)) rfl rfl (by exact new_cells _ 39 _) (by simp [rd, c0s, Value.oneCell']) ho63 hoby (by decide) (by rw [Deep.nblk_alloc]; have := HK3.out.size; have := Hbw.out; omega) ?_; intro g4' off4 cap4 w4 hR4 hk4 hg4; have hB4 := hk4.is (HB3.out.alloc _) Hhvb.out; have HB4 := hide hB4; have p5 := hB4.cell 5; have t5 := hB4.frozen 5; simp only [mcells, List.getElem?_toArray, List.getElem?_cons_zero, List.getElem?_cons_succ] at p5; have HT4 := hide (hk4.is (HT3.out.alloc _) Hhvt.out); have HR4 := hide hR4; have HK4 := hide hk4; have HG4 := hide hg4; clear hk4 hB4 hR4 hg4))
    all_goals (
      go_wp2_with fail
      go_meet
      refine app_done HB4.out HT4.out HR4.out HG4.out HK1.out HK3.out HK4.out HB1.out HT1.out Hhvb.out Hhvt.out hBT)
  case rest =>
    obtain ⟨g, off, cap, p2, hB2, hT2, hR2, hgB, hgT, hg, hk⟩ := hcut
    have HB2 := hide hB2
    have HT2 := hide hT2
    have HR2 := hide hR2
    have HG := hide (show g ≠ B ∧ g ≠ T ∧ (v.ownBlock = some g ∨ w.heap.size ≤ g) from ⟨hgB, hgT, hg⟩)
    have HK2 := hide hk
    have d0 := hB2.cell 0
    have d3 := hB2.cell 3
    have d4 := hB2.cell 4
    have r4 := hB2.frozen 4
    simp only [mcells, List.getElem?_toArray, List.getElem?_cons_zero, List.getElem?_cons_succ] at d0 d3 d4
    clear hB2 hT2 hR2 hgB hgT hg hk HB1 HT1 HV1 HK1 Hbw c4 c5 q5 ho63 hoby hi hz0 hz1 hz2 
    obtain ⟨A, hA⟩ := Int.eq_ofNat_of_zero_le (show 0 ≤ now - f by have := HN.out; omega)
    obtain ⟨b, hb⟩ := Int.eq_ofNat_of_zero_le (show 0 ≤ L by have := HN.out; omega)
    have hAb : b ≤ A ∧ A < 2 ^ 20 ∧ 0 < b ∧ b ≤ 8 := by have := HN.out; omega
    obtain ⟨r, m, i, hdiv, hrd, hfl⟩ := div_floor hAb.2.1 hAb.2.2.1 hAb.2.2.2 hAb.1
    have hqA : A / b ≤ A := Nat.div_le_self _ _
    have hqn : n + 1 ≤ ((A / b : Nat) : Int) := by
      have h1 := HN.out
      have h2 : (n + 1) * L ≤ A := by rw [Int.add_mul]; omega
      rw [hb] at h2
      exact (Int.le_ediv_iff_mul_le (by omega)).2 h2
    have hqL : ((A / b : Nat) : Int) * b ≤ A := by
      have := Nat.div_mul_le_self A b
      exact_mod_cast this
    have hqe : q = ((A / b : Nat) : Int) := by rw [HQD.out, hA, hb]; rfl
    rw [← hqe] at hqn hqL
    have hq0 : q ≤ A := by omega
    have m6 := run_sub (P := Yba.prog) (a := now) (b := f) (by have := HN.out; omega) (by have := HN.out; omega) (by omega)
    rw [hA] at m6
    have m7 : ∀ t w, (binOp .quo t (.float .f64 (F A)) (.float .f64 (F L))).run Yba.prog w = .ok (.float .f64 r) w := fun t w => run_float_arith w .quo t .f64 _ _ _ (by rw [hb]; exact hdiv)
    have mx := run_max_F (P := Yba.prog) (a := n + 1) (b := q) (by have := HN.out; omega) (by have := HN.out; omega) hqn
    have hqp : 0 ≤ q * L ∧ q * L ≤ A := by
      rw [← hb] at hqL
      exact ⟨Int.mul_nonneg (by have := HN.out; omega) (by have := HN.out; omega), hqL⟩
    have HQ := hide (show n + 1 ≤ q ∧ q ≤ A ∧ A < 2 ^ 20 ∧ 0 ≤ q * L ∧ q * L ≤ A by omega)
    have HD := hide (And.intro hrd hfl)
    have Hq53 := hide (show A / b < 2 ^ 53 by omega)
    have HAb := hide (And.intro hqe (And.intro hA hb))
    clear hqA hqn hAb hrd hfl hA hb hdiv hqL hqp hqe hq0
    go_upto_region 13 with fail
    go_cut [] (fun wx => App w wx B T base L s f q mp v (l ++ [n + 1]))
    case first =>
      go_region_law (refine step_floorE rfl (.tmp 98) rfl r m (A / b) q i HD.out.1 HD.out.2 Hq53.out HAb.out.1 (by simp [Act.eval, Act.put]) ?_)
      all_goals (
        go_wp2_with fail
        go_meet
        exact app_whole HB2.out HT2.out HR2.out HG.out.1 HG.out.2.1 HG.out.2.2 HK2.out hBT)
    case rest =>
      clear HB2 HT2 HR2 HG HK2 d0 d3 d4 r4 m5 m6 m7 mx HD Hq53
      obtain ⟨g3, off3, cap3, p3, hB3, hT3, hR3, hgB, hgT, hg, hk⟩ := hcut
      have HE2 := hide (show ∀ x ∈ l ++ [n + 1], 0 ≤ x ∧ x ≤ 65536 by
        intro x hx
        rw [List.mem_append, List.mem_singleton] at hx
        rcases hx with hx | rfl
        · exact HL2.out x hx
        · have := HN.out; omega)
      have HE := hide (show 1 ≤ (l ++ [n + 1]).length ∧ (l ++ [n + 1]).length ≤ 1025 by have := HN.out; simp; omega)
      have HLE := hide HL'.out
      generalize l ++ [n + 1] = E at *
      have HB3 := hide hB3
      have HT3 := hide hT3
      have HR3 := hide hR3
      have HG3 := hide (show g3 ≠ B ∧ g3 ≠ T ∧ (v.ownBlock = some g3 ∨ w.heap.size ≤ g3) from ⟨hgB, hgT, hg⟩)
      have HK3 := hide hk
      have m8 : ∀ t w, (binOp .sub t (.float .f64 (F q)) (.float .f64 4624633867356078080)).run Yba.prog w = .ok (.float .f64 (F (q - 15))) w := by
        have := run_sub (P := Yba.prog) (a := q) (b := 15) (by have := HQ.out; have := HN.out; omega) (by omega) (by have := HQ.out; have := HN.out; omega)
        rwa [F15] at this
      have m9 := run_mul (P := Yba.prog) (a := q) (b := L) (by have := HQ.out; have := HN.out; omega) (by have := HN.out; omega) (by have := HQ.out; have := HN.out; omega) (by have := HQ.out; have := HN.out; omega) (by have := HN.out; omega)
      have m10 := run_add (P := Yba.prog) (a := f) (b := q * L) (by have := HN.out; omega) (by have := HQ.out; have := HN.out; omega) (by have := HQ.out; have := HN.out; omega)
      clear hB3 hT3 hR3 hgB hgT hg hk HL' HL2
      go_wp2
      go_loopg [9] E.length (fun gk k wr => ∃ j : Nat, k = .int .i64 j ∧ gk + j = E.length ∧ j < E.length ∧ keepK q E = j + keepK q (E.drop j) ∧ Kp (fun _ => False) wc wr)
      case atStart => exact ⟨0, rfl, rfl, by have := HE.out; omega, by simp, Kp.refl _ _⟩
      case round =>
        obtain ⟨j, rfl, hj, hjl, hkeep, hkr⟩ := hrel
        have hBr := hkr.is HB3.out (fun h => h)
        have d0 := hBr.cell 0
        have d3 := hBr.cell 3
        have d4 := hBr.cell 4
        have d5 := hBr.cell 5
        have r5 := hBr.frozen 5
        simp only [mcells, List.getElem?_toArray, List.getElem?_cons_zero, List.getElem?_cons_succ] at d0 d3 d4 d5
        have hRr := hide (HR3.out.kept hkr (fun h => h))
        have HBr := hide hBr
        have HTr := hide (hkr.is HT3.out (fun h => h))
        have HKc := hide hkr
        have HKr := hide (HK3.out.trans (hkr.mono (fun _ h => h.elim)))
        have hjl0 : (j : Int) < (E.length : Int) := by omega
        have hjl1 : (j : Int) ≤ (E.length : Int) := by omega
        have hjl2 : E.length ≤ cap3 := HR3.out.room
        have hjl3 : (j : Int) ≤ (cap3 : Int) := by omega
        have hjl4 : (E.length : Int) ≤ (cap3 : Int) := by omega
        have hjl5 : ¬ cap3 = j := by omega
        have hjl6 : j ≤ E.length := by omega
        have HJ := hide (And.intro hj hkeep)
        have HEl := HE.out
        have hw1 : IntKind.i64.wrap ((j : Int) + 1) = (j : Int) + 1 := by rw [IntKind.wrap_i64]; omega
        have ht1 : ((j : Int) + 1).toNat = j + 1 := by omega
        clear hBr hkr hj hkeep HEl
        by_cases hlt : j + 1 < E.length
        · have hd : decide ((j : Int) + 1 < (E.length : Int)) = true := decide_eq_true (by omega)
          have hlt' : (j : Int) + 1 < (E.length : Int) := by omega
          have h0 : (0 : Int) ≤ (j : Int) + 1 := by omega
          obtain ⟨x, hx⟩ : ∃ x, E[j + 1]? = some x := ⟨_, List.getElem?_eq_getElem hlt⟩
          have hx2 := HE2.out x (List.mem_of_getElem? hx)
          have cx : wr.cell? ⟨g3, off3 + (j + 1) * 10, none⟩ = some (.float .f64 (F x)) := hRr.out.cells _ _ (rds_at hx)
          by_cases hxq : x ≤ q - 15
          · have ho := leq_true (a := x) (b := q - 15) (by omega) (by have := HQ.out; have := HN.out; omega) hxq
            have HX := hide (And.intro hx hxq)
            clear hx hx2 hxq
            go_upto_region 15 with fail
            go_quiet (simp only [m8])
            go_wp2
            go_roundg (gk - 1)
            case measure => have := HJ.out; omega
            case rel =>
              obtain ⟨hj, hkeep⟩ := HJ.out
              obtain ⟨hx, hxq⟩ := HX.out
              refine ⟨j + 1, by simp, by omega, by omega, ?_, HKc.out.drewN _⟩
              rw [hkeep, keepK_step hx hxq]
              omega
          · have ho := leq_false (a := x) (b := q - 15) (by omega) (by have := HQ.out; have := HN.out; omega) (by omega)
            have HX := hide (show keepK q (E.drop j) = 0 from keepK_stop hx hxq)
            clear hx hx2 hxq
            go_upto_region 15 with fail
            go_quiet (simp only [m8])
            go_wp2
            go_quiet (simp only [m9, m10])
            go_wp2
            go_ret2
            exact ⟨rfl, end_done HBr.out HTr.out hRr.out HG3.out HKr.out hBT HLE.out HJ.out.2 HX.out hjl6 _ rfl⟩
        · have hd : decide ((j : Int) + 1 < (E.length : Int)) = false := decide_eq_false (by omega)
          have HX := hide (show keepK q (E.drop j) = 0 from keepK_last (by omega))
          go_upto_region 15 with fail
          go_quiet (simp only [m8])
          go_wp2
          go_quiet (simp only [m9, m10])
          go_wp2
          go_ret2
          exact ⟨rfl, end_done HBr.out HTr.out hRr.out HG3.out HKr.out hBT HLE.out HJ.out.2 HX.out hjl6 _ rfl⟩
end Go.Proofs.Ybulkbpfu
