import Derived.Test.YbulkbpfuFmtFill
namespace Go.Proofs.YbulkbpfuFmt
open Go.ChangeShapes Go.WideShapes Go.ChangeAt Go.RowKit
set_option linter.unusedVariables false

/-- THE READER UNDERNEATH: a bufio.Reader at B, its buffer at F, the law's source at S over a stream that lies at stv; 'rest': the bytes not yet handed out. -/
structure Buf (w : World) (B F S : Nat) (stv : Value) (te : TypeId) (ev : Value) (bs rest : List Int) (base : Nat) : Prop where
  st : ∃ (r q i : Nat) (bb : List Int) (lb lr : Value) (f : Nat → Value), Is w B 101 (brc F S r q .nilIface lb lr) ∧ w.rowIs F 5 4096 f ∧ Is w S 38 #[stv, .int .i64 i, .iface te ev] ∧ q = r + bb.length ∧ q ≤ 3 ∧ i ≤ bs.length ∧
    (∀ j, j < bb.length → f (r + j) = .int .u8 (bb.getD j 0)) ∧ rest = bb ++ bs.drop i
  own : w.ownsRow base 5 1 stv bs.length (bs.map (Value.int .u8))
  lt : ∀ k, stv.ownBlock = some k → k < S
  hSB : S < B
  hBF : B < F
  len : bs.length ≤ 1000000

theorem Kp.buf {X : Nat → Prop} {w w' : World} {B F S : Nat} {stv : Value} {te : TypeId} {ev : Value} {bs rest : List Int} {base : Nat} (k : Kp X w w') (h : Buf w B F S stv te ev bs rest base) (hB : ¬ X B) (hF : ¬ X F) (hS : ¬ X S) (hst : ∀ g, stv.ownBlock = some g → ¬ X g) : Buf w' B F S stv te ev bs rest base := by
  obtain ⟨⟨r, q, i, bb, lb, lr, f, h1, h2, h3, h4⟩, own, lt, a, b, c⟩ := h
  exact ⟨⟨r, q, i, bb, lb, lr, f, k.is h1 hB, k.rowIs h2 hF, k.is h3 hS, h4⟩, k.row own hst, lt, a, b, c⟩

/-- readErr: what the reader holds as its error, which it forgets. -/
theorem readErr_any (B F S : Nat) (r q : Int) (er lb lr : Value) (w : World) (hB : Is w B 101 (brc F S r q er lb lr)) :
    Calls Ybaf.prog 37 #[.pointer (some ⟨B, 0, none⟩)] w fun e w' => e = .returned er ∧ w.setCell ⟨B, 4, none⟩ .nilIface = w' := by
  have c4 := hB.cell 4
  have f4 := hB.frozen 4
  simp [brc] at c4
  clear hB
  go_enter Ybaf.func37, Ybaf.ntmps37
  go_wp2
  go_ret
  exact ⟨rfl, rfl⟩

/-- A byte lies in the buffer. -/
theorem rb_core (B F S : Nat) (r q : Nat) (b : Int) (lb lr : Value) (f : Nat → Value) (w : World) (hB : Is w B 101 (brc F S r q .nilIface lb lr)) (hF : w.rowIs F 5 4096 f) (hrq : r < q) (hq : q ≤ 3) (hf : f r = .int .u8 b) (hBF : B ≠ F) :
    Calls Ybaf.prog 26 #[.pointer (some ⟨B, 0, none⟩)] w fun e w' => e = .returned (.tuple #[.int .u8 b, .nilIface]) ∧ ∃ lb' lr', Is w' B 101 (brc F S ((r : Int) + 1) q .nilIface lb' lr') ∧ Kp (fun k => k = B) w w' := by
  have c0 := hB.cell 0
  have c2 := hB.cell 2
  have c3 := hB.cell 3
  have c5 := hB.cell 5
  have c6 := hB.cell 6
  have f2 := hB.frozen 2
  have f5 := hB.frozen 5
  have f6 := hB.frozen 6
  simp [brc] at c0 c2 c3 c5 c6
  have cb : w.cell? ⟨F, r, none⟩ = some (.int .u8 b) := by rw [hF.cell (by omega), hf]
  have HB := hide hB
  clear hB hF hf
  have hne : ((r : Int) == (q : Int)) = false := beq_eq_false_iff_ne.2 (by omega)
  go_enter Ybaf.func26, Ybaf.ntmps26
  go_wp2
  refine wp_loop_rounds 1 ?_
  rw [rounds_succ]
  go_wp2
  go_quiet (fail)
  go_wp2
  go_quiet (fail)
  go_wp2
  go_ret2
  refine ⟨rfl, .int .i64 (wrap64 b), .int .i64 (-1), ?_, ?_⟩
  rotate_left
  · exact ((((Kp.refl (fun k => k = B) w).set (p := ⟨B, 6, none⟩) (fun _ => rfl) _).drewN _).set (p := ⟨B, 2, none⟩) (fun _ => rfl) _).set (p := ⟨B, 5, none⟩) (fun _ => rfl) _
  · exact (((HB.out.set 6 (.int .i64 (-1))).set 2 (.int .i64 ((r : Int) + 1))).set 5 _).heap rfl

set_option maxRecDepth 100000 in
set_option maxHeartbeats 2000000 in
/-- The buffer is empty, the stream is not. -/
theorem rb_some (B F S g n cap i m : Nat) (E lb lr : Value) (bs : List Int) (f : Nat → Value) (r : Nat) (w : World) (hB : Is w B 101 (brc F S r r .nilIface lb lr)) (hr : r ≤ 3) (hn : n ≤ 1000000) (hnc : n ≤ cap) (hS : Is w S 38 #[.slice (some ⟨g, 0, none⟩) n cap, .int .i64 i, E]) (hF : w.rowIs F 5 4096 f)
    (hi : i < n) (hm : (3 < n - i ∧ m = 3) ∨ (n - i ≤ 3 ∧ m = n - i)) (hgS : g < S) (hSB : S < B) (hBF : B < F) (hm0 : 0 < m) (hm3 : m ≤ 3) (hc : ∀ j, j < n → w.cell? ⟨g, j, none⟩ = some (.int .u8 (bs.getD j 0))) :
    Calls Ybaf.prog 26 #[.pointer (some ⟨B, 0, none⟩)] w fun e w' => e = .returned (.tuple #[.int .u8 (bs.getD i 0), .nilIface]) ∧ ∃ lb' lr', Is w' B 101 (brc F S 1 m .nilIface lb' lr') ∧ (∃ f', w'.rowIs F 5 4096 f' ∧ ∀ j, j < m → f' j = .int .u8 (bs.getD (i + j) 0)) ∧
      Is w' S 38 #[.slice (some ⟨g, 0, none⟩) n cap, .int .i64 ((i : Int) + m), E] ∧ Kp (fun k => k = B ∨ k = F ∨ k = S) w w' := by
  have c2 := hB.cell 2
  have c3 := hB.cell 3
  have c4 := hB.cell 4
  have c6 := hB.cell 6
  have f6 := hB.frozen 6
  simp [brc] at c2 c3 c4 c6
  have hB6 : Is (w.setCell ⟨B, 6, none⟩ (.int .i64 (-1))) B 101 (brc F S r r .nilIface lb (.int .i64 (-1))) := hB.set 6 (.int .i64 (-1))
  have k6 : Kp (fun k => k = B) w (w.setCell ⟨B, 6, none⟩ (.int .i64 (-1))) := (Kp.refl (fun k => k = B) w).set (p := ⟨B, 6, none⟩) (fun _ => rfl) _
  have HB := hide hB6
  have HS := hide (k6.is hS (by omega))
  have HF := hide (k6.rowIs hF (by omega))
  have HC := hide (fun j hj => k6.cell (hc j hj) (show ¬ g = B by omega))
  have HK := hide k6
  clear hB hS hF hc hB6 k6
  have hne : ((0 : Int) == (m : Int)) = false := beq_eq_false_iff_ne.2 (by omega)
  go_enter Ybaf.func26, Ybaf.ntmps26
  go_wp2
  refine wp_loop_rounds 2 ?_
  rw [rounds_succ]
  go_wp2
  go_quiet (fail)
  go_wp2_with fail
  refine (fill_some B F S g n cap i m E lb (.int .i64 (-1)) bs f r _ (by exact HB.out) hr hn hnc (by exact HS.out) (by exact HF.out) hi hm (by omega) (by omega) (by omega) (by omega) (by omega) (by omega) (by omega) (by omega) hm0 hm3 (by exact HC.out)).mono ?_
  rintro e w1 ⟨rfl, hB1, ⟨f', hF1, hf'⟩, hS1, hK1⟩
  have d0 := hB1.cell 0
  have d2 := hB1.cell 2
  have d3 := hB1.cell 3
  have d5 := hB1.cell 5
  have g2 := hB1.frozen 2
  have g5 := hB1.frozen 5
  simp [brc] at d0 d2 d3 d5
  have cb : w1.cell? ⟨F, 0, none⟩ = some (.int .u8 (bs.getD i 0)) := by rw [hF1.cell (by omega), hf' 0 hm0]; simp
  have HB1 := hide hB1
  have HF1 := hide (And.intro hF1 hf')
  have HS1 := hide hS1
  clear hB1 hF1 hf' hS1 c2 c3 c4 c6 f6
  go_wp2
  rw [rounds_succ]
  go_wp2
  go_quiet (fail)
  go_wp2
  go_quiet (fail)
  go_wp2
  go_ret2
  refine ⟨rfl, .int .i64 (wrap64 (bs.getD i 0)), .int .i64 (-1), ?_, ⟨f', (HF1.out.1.setOther (show F ≠ B by omega) _).setOther (show F ≠ B by omega) _, HF1.out.2⟩, ?_, ?_⟩
  rotate_left
  · exact ((HS1.out.other (show S ≠ B by omega) 2 _).other (show S ≠ B by omega) 5 _).heap rfl
  · have k2 : Kp (fun k => k = B ∨ k = F ∨ k = S) w w1 := Kp.trans (HK.out.mono (fun k h => Or.inl h)) ⟨hK1.os, hK1.tape, hK1.output, hK1.size, hK1.block⟩
    exact Kp.set (p := ⟨B, 5, none⟩) (Kp.set (p := ⟨B, 2, none⟩) (k2.drewN _) (fun _ => Or.inl rfl) _) (fun _ => Or.inl rfl) _
  · exact ((HB1.out.set 2 (.int .i64 1)).set 5 _).heap rfl

set_option maxRecDepth 100000 in
set_option maxHeartbeats 2000000 in
/-- Nothing is left. -/
theorem rb_none (B F S n cap i : Nat) (ao : Option Addr) (te : TypeId) (ev lb lr : Value) (r : Nat) (w : World) (hB : Is w B 101 (brc F S r r .nilIface lb lr)) (hr : r ≤ 3) (hn : n ≤ 1000000) (hS : Is w S 38 #[.slice ao n cap, .int .i64 i, .iface te ev]) (hi : n ≤ i) (hi2 : i ≤ 1000000) (hSB : S < B) :
    Calls Ybaf.prog 26 #[.pointer (some ⟨B, 0, none⟩)] w fun e w' => e = .returned (.tuple #[.int .u8 0, .iface te ev]) ∧ Is w' B 101 (brc F S 0 0 .nilIface lb (.int .i64 (-1))) ∧ Kp (fun k => k = B) w w' := by
  have c2 := hB.cell 2
  have c3 := hB.cell 3
  have c4 := hB.cell 4
  have c6 := hB.cell 6
  have f6 := hB.frozen 6
  simp [brc] at c2 c3 c4 c6
  have hB6 : Is (w.setCell ⟨B, 6, none⟩ (.int .i64 (-1))) B 101 (brc F S r r .nilIface lb (.int .i64 (-1))) := hB.set 6 (.int .i64 (-1))
  have k6 : Kp (fun k => k = B) w (w.setCell ⟨B, 6, none⟩ (.int .i64 (-1))) := (Kp.refl (fun k => k = B) w).set (p := ⟨B, 6, none⟩) (fun _ => rfl) _
  have HB := hide hB6
  have HS := hide (k6.is hS (by omega))
  have HK := hide k6
  clear hB hS hB6 k6
  go_enter Ybaf.func26, Ybaf.ntmps26
  go_wp2
  refine wp_loop_rounds 2 ?_
  rw [rounds_succ]
  go_wp2
  go_quiet (fail)
  go_wp2_with fail
  refine (fill_none B F S n cap i ao te ev lb (.int .i64 (-1)) r _ (by exact HB.out) hr hn (by exact HS.out) hi hi2 (by omega)).mono ?_
  rintro e w1 ⟨rfl, hB1, hK1⟩
  have d2 := hB1.cell 2
  have d3 := hB1.cell 3
  have d4 := hB1.cell 4
  simp [brc] at d2 d3 d4
  have HB1 := hide hB1
  clear hB1 c2 c3 c4 c6 f6
  go_wp2
  rw [rounds_succ]
  go_wp2
  go_quiet (fail)
  go_wp2_with fail
  refine (readErr_any B F S 0 0 (.iface te ev) lb (.int .i64 (-1)) _ (by exact HB1.out)).mono ?_
  rintro e w2 ⟨rfl, rfl⟩
  go_wp2
  go_ret2
  refine ⟨rfl, (HB1.out.set 4 .nilIface).heap rfl, ?_⟩
  refine Kp.set (p := ⟨B, 4, none⟩) (Kp.drewN (Kp.trans HK.out ?_) _) (fun _ => rfl) _
  exact ⟨hK1.os, hK1.tape, hK1.output, hK1.size, hK1.block⟩
end Go.Proofs.YbulkbpfuFmt
