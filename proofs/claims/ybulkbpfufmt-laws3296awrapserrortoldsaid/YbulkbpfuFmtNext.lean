import Derived.Test.YbulkbpfuFmtCut
namespace Go.Proofs.YbulkbpfuFmt
open Go.ChangeShapes Go.WideShapes Go.ChangeAt Go.RowKit
set_option linter.unusedVariables false

theorem info88 : (Ybaf.prog.info? 88).map (fun i => i.comparable) = some true := by kernel_rfl
theorem info90 : ((Ybaf.prog.info? 90).map (fun i => i.size)).isSome = true := by kernel_rfl

/-- Two errors of errors.New's make at one address are one. -/
theorem eql_same (a : Addr) (w : World) : (binOp .eql 36 (.iface 88 (.pointer (some a))) (.iface 88 (.pointer (some a)))).run Ybaf.prog w = .ok (.bool true) w := by
  obtain ⟨i, hi, hc⟩ := Option.map_eq_some_iff.1 info88
  obtain ⟨j, hj, _⟩ : ∃ j, Ybaf.prog.info? 90 = some j ∧ True := by
    cases h : Ybaf.prog.info? 90 with
    | none => have := info90; rw [h] at this; cases this
    | some j => exact ⟨j, rfl, trivial⟩
  exact run_eql_iface_ptr_same w a Ybaf.underlying36 Ybaf.underlying88 hi hc hj

set_option maxRecDepth 100000 in
theorem readError_eof (a : Addr) (w : World) (h : w.cell? ⟨0, 0, none⟩ = some (.iface 88 (.pointer (some a)))) :
    Calls Ybaf.prog 18 #[.iface 88 (.pointer (some a))] w fun e w' => e = .returned (.iface 88 (.pointer (some a))) ∧ w' = w := by
  have he := eql_same a
  go_enter Ybaf.func18, Ybaf.ntmps18
  go_wp2
  go_ret
  exact ⟨rfl, rfl⟩

set_option maxRecDepth 100000 in
set_option maxHeartbeats 4000000 in
/-- Next comes to a whole frame. -/
theorem next_some (R B F S : Nat) (stv : Value) (te : TypeId) (ev : Value) (bs rest junk raw : List Int) (base : Nat) (ins : Bool) (last : Int) (t : Int) (n : Nat) (ht : TL t n) (w : World) (h : Rdr w R B F S stv te ev bs (junk ++ 26 :: t :: (esc raw ++ rest)) base ins last) (hj : ∀ x ∈ junk, x ≠ 26) (hs : ins = true ∨ last ≠ 26) (hlen : raw.length = 7 + n) :
    Calls Ybaf.prog 9 #[.pointer (some ⟨R, 0, none⟩)] w fun e w' => e = .returned (.tuple #[.agg #[.int .u8 t, .int .u64 (cnt raw 6), .int .u8 (raw.getD 6 0), .slice (some ⟨R, 11, none⟩) n 14], .nilIface]) ∧ (∃ last', RdrF w' R B F S stv te ev bs rest base true last' raw (7 + n)) ∧ Kp (All R B F S) w w' := by
  have hRw : R < w.heap.size := by obtain ⟨f, hf, _⟩ := h.row; exact hf.lt
  have hord := And.intro h.hFR (And.intro h.buf.hSB h.buf.hBF)
  have h0 := ((h.rdrF []).kept ((Kp.refl (fun _ => False) w).alloc (.cells #[.int .u8 0, .int .u64 0, .int .u8 0, .slice none 0 0] 40)) (fun _ h => h.elim)).rdr
  have H1 := hide (findStart_some R B F S stv te ev bs (esc raw ++ rest) junk base ins last t n ht _ h0 hj hs)
  have HF := hide (fun W i => readFrame_some R B F S stv te ev bs rest raw base i t t n ht W)
  clear h h0 hj hs ht
  go_enter Ybaf.func9, Ybaf.ntmps9
  go_wp2
  refine wp_loop_rounds 1 ?_
  rw [rounds_succ]
  go_wp2_with fail
  refine H1.out.mono ?_
  rintro e w1 ⟨rfl, ⟨ins1, hR1⟩, hk1⟩
  have HA1 := hide (hk1.is (Is.new w 40 #[.int .u8 0, .int .u64 0, .int .u8 0, .slice none 0 0]) (by omega))
  have HK1 := hide (((Kp.refl (All R B F S) w).alloc _).trans hk1)
  have HR1 := hide hR1
  clear hR1 hk1 H1
  go_wp2_with fail
  refine (HF.out _ _ (by exact HR1.out) hlen).mono ?_
  rintro e w2 ⟨rfl, ⟨last2, hR2⟩, hk2⟩
  have hA2 := hk2.is HA1.out (by omega)
  have HK2 := hide (HK1.out.trans hk2)
  have HR2 := hide hR2
  have hAw : w.heap.size < w2.heap.size := hA2.lt
  have a0 := hA2.cell 0
  have a1 := hA2.cell 1
  have a2 := hA2.cell 2
  have a3 := hA2.cell 3
  have q0 := hA2.frozen 0
  have q1 := hA2.frozen 1
  have q2 := hA2.frozen 2
  have q3 := hA2.frozen 3
  simp at a0 a1 a2 a3
  clear hR2 hk2 hA2
  go_wp2
  refine bodyPost_ret (v := .tuple #[.agg #[.int .u8 t, .int .u64 (cnt raw 6), .int .u8 (raw.getD 6 0), .slice (some ⟨R, 11, none⟩) n 14], .nilIface]) (by simp [results, Ybaf.results9, go_sem, a0, a1, a2, a3, hAw]) rfl ⟨rfl, ⟨last2, ?_⟩, ?_⟩
  · exact RdrF.kept (X := fun k => k = w.heap.size) HR2.out (((((Kp.refl (fun k => k = w.heap.size) _).set (p := ⟨w.heap.size, 0, none⟩) (fun _ => rfl) _).set (p := ⟨w.heap.size, 1, none⟩) (fun _ => rfl) _).set (p := ⟨w.heap.size, 2, none⟩) (fun _ => rfl) _).set (p := ⟨w.heap.size, 3, none⟩) (fun _ => rfl) _ |>.alloc _) (fun i h => by omega)
  · exact ((((HK2.out.set (p := ⟨w.heap.size, 0, none⟩) (fun h => absurd h (Nat.lt_irrefl _)) _).set (p := ⟨w.heap.size, 1, none⟩) (fun h => absurd h (Nat.lt_irrefl _)) _).set (p := ⟨w.heap.size, 2, none⟩) (fun h => absurd h (Nat.lt_irrefl _)) _).set (p := ⟨w.heap.size, 3, none⟩) (fun h => absurd h (Nat.lt_irrefl _)) _).alloc _

set_option maxRecDepth 100000 in
set_option maxHeartbeats 4000000 in
/-- Next at the stream's end: no frame begins, or the end cuts behind a frame's first byte. -/
theorem next_eof1 (R B F S : Nat) (stv : Value) (a : Addr) (bs junk tl : List Int) (base : Nat) (ins : Bool) (last : Int) (w : World) (h : Rdr w R B F S stv 88 (.pointer (some a)) bs (junk ++ tl) base ins last) (hj : ∀ x ∈ junk, x ≠ 26) (hs : tl = [] ∨ (tl = [26] ∧ (ins = true ∨ last ≠ 26)))
    (g0 : w.cell? ⟨0, 0, none⟩ = some (.iface 88 (.pointer (some a)))) (hS0 : 0 < S) :
    Calls Ybaf.prog 9 #[.pointer (some ⟨R, 0, none⟩)] w fun e w' => e = .returned (.tuple #[.agg #[.int .u8 0, .int .u64 0, .int .u8 0, .slice none 0 0], .iface 88 (.pointer (some a))]) ∧ (∃ ins' last', Rdr w' R B F S stv 88 (.pointer (some a)) bs [] base ins' last') ∧ Kp (All R B F S) w w' := by
  have hRw : R < w.heap.size := by obtain ⟨f, hf, _⟩ := h.row; exact hf.lt
  have hord := And.intro h.hFR (And.intro h.buf.hSB h.buf.hBF)
  have h0 := ((h.rdrF []).kept ((Kp.refl (fun _ => False) w).alloc (.cells #[.int .u8 0, .int .u64 0, .int .u8 0, .slice none 0 0] 40)) (fun _ h => h.elim)).rdr
  have H1 := hide (findStart_none R B F S stv 88 (.pointer (some a)) bs junk tl base ins last _ h0 hj hs)
  have HG := hide g0
  clear h h0 hj hs g0
  go_enter Ybaf.func9, Ybaf.ntmps9
  go_wp2
  refine wp_loop_rounds 1 ?_
  rw [rounds_succ]
  go_wp2_with fail
  refine H1.out.mono ?_
  rintro e w2 ⟨rfl, ⟨ins1, last1, hR1⟩, hk1⟩
  have hA2 := hk1.is (Is.new w 40 #[.int .u8 0, .int .u64 0, .int .u8 0, .slice none 0 0]) (by omega)
  have HK2 := hide (((Kp.refl (All R B F S) w).alloc _).trans hk1)
  have HR2 := hide hR1
  have hAw : w.heap.size < w2.heap.size := hA2.lt
  have HG2 := hide (HK2.out.cell HG.out (by omega))
  have a0 := hA2.cell 0
  have a1 := hA2.cell 1
  have a2 := hA2.cell 2
  have a3 := hA2.cell 3
  have q0 := hA2.frozen 0
  have q1 := hA2.frozen 1
  have q2 := hA2.frozen 2
  have q3 := hA2.frozen 3
  simp at a0 a1 a2 a3
  clear hR1 hk1 H1 hA2
  go_wp2_with fail
  refine (readError_eof a _ HG2.out).mono ?_
  rintro e w3 ⟨rfl, hw3⟩
  subst hw3
  go_wp2
  refine bodyPost_ret (v := .tuple #[.agg #[.int .u8 0, .int .u64 0, .int .u8 0, .slice none 0 0], .iface 88 (.pointer (some a))]) (by simp [results, Ybaf.results9, go_sem, a0, a1, a2, a3]) rfl ⟨rfl, ⟨ins1, last1, ?_⟩, ?_⟩
  · exact (RdrF.kept (X := fun k => k = w.heap.size) (HR2.out.rdrF []) ((((Kp.refl (fun k => k = w.heap.size) _).set (p := ⟨w.heap.size, 0, none⟩) (fun _ => rfl) _).set (p := ⟨w.heap.size, 1, none⟩) (fun _ => rfl) _).set (p := ⟨w.heap.size, 2, none⟩) (fun _ => rfl) _ |>.set (p := ⟨w.heap.size, 3, none⟩) (fun _ => rfl) _) (fun i h => by omega)).rdr
  · exact (((HK2.out.set (p := ⟨w.heap.size, 0, none⟩) (fun h => absurd h (Nat.lt_irrefl _)) _).set (p := ⟨w.heap.size, 1, none⟩) (fun h => absurd h (Nat.lt_irrefl _)) _).set (p := ⟨w.heap.size, 2, none⟩) (fun h => absurd h (Nat.lt_irrefl _)) _).set (p := ⟨w.heap.size, 3, none⟩) (fun h => absurd h (Nat.lt_irrefl _)) _

set_option maxRecDepth 100000 in
set_option maxHeartbeats 4000000 in
/-- Next at the stream's end, inside a frame. -/
theorem next_eof2 (R B F S : Nat) (stv : Value) (a : Addr) (bs junk p more raw : List Int) (base : Nat) (ins : Bool) (last : Int) (t : Int) (n : Nat) (ht : TL t n) (w : World) (h : Rdr w R B F S stv 88 (.pointer (some a)) bs (junk ++ 26 :: t :: p) base ins last) (hj : ∀ x ∈ junk, x ≠ 26) (hs : ins = true ∨ last ≠ 26)
    (hlen : raw.length = 7 + n) (hp : p ++ more = esc raw) (hmore : more ≠ []) (g0 : w.cell? ⟨0, 0, none⟩ = some (.iface 88 (.pointer (some a)))) (hS0 : 0 < S) :
    Calls Ybaf.prog 9 #[.pointer (some ⟨R, 0, none⟩)] w fun e w' => e = .returned (.tuple #[.agg #[.int .u8 0, .int .u64 0, .int .u8 0, .slice none 0 0], .iface 88 (.pointer (some a))]) ∧ (∃ ins' last', Rdr w' R B F S stv 88 (.pointer (some a)) bs [] base ins' last') ∧ Kp (All R B F S) w w' := by
  have hRw : R < w.heap.size := by obtain ⟨f, hf, _⟩ := h.row; exact hf.lt
  have hord := And.intro h.hFR (And.intro h.buf.hSB h.buf.hBF)
  have h0 := ((h.rdrF []).kept ((Kp.refl (fun _ => False) w).alloc (.cells #[.int .u8 0, .int .u64 0, .int .u8 0, .slice none 0 0] 40)) (fun _ h => h.elim)).rdr
  have H1 := hide (findStart_some R B F S stv 88 (.pointer (some a)) bs p junk base ins last t n ht _ h0 hj hs)
  have HF := hide (fun W i hW => readFrame_none R B F S stv 88 (.pointer (some a)) bs p more raw base i t t n ht W hW hlen hp hmore)
  have HG := hide g0
  clear h h0 hj hs ht hp hmore g0
  go_enter Ybaf.func9, Ybaf.ntmps9
  go_wp2
  refine wp_loop_rounds 1 ?_
  rw [rounds_succ]
  go_wp2_with fail
  refine H1.out.mono ?_
  rintro e w1 ⟨rfl, ⟨ins1, hR1⟩, hk1⟩
  have HA1 := hide (hk1.is (Is.new w 40 #[.int .u8 0, .int .u64 0, .int .u8 0, .slice none 0 0]) (by omega))
  have HK1 := hide (((Kp.refl (All R B F S) w).alloc _).trans hk1)
  have HR1 := hide hR1
  clear hR1 hk1 H1
  go_wp2_with fail
  refine (HF.out _ _ (by exact HR1.out)).mono ?_
  rintro e w2 ⟨rfl, ⟨ins2, last2, hR2⟩, hk2⟩
  have hA2 := hk2.is HA1.out (by omega)
  have HK2 := hide (HK1.out.trans hk2)
  have HR2 := hide hR2
  have hAw : w.heap.size < w2.heap.size := hA2.lt
  have HG2 := hide (((Kp.refl (All R B F S) w2).alloc (.cells #[.int .u8 0, .int .u64 0, .int .u8 0, .slice none 0 0] 40)).cell (HK2.out.cell HG.out (by omega)) (by omega))
  have a0 := hA2.cell 0
  have a1 := hA2.cell 1
  have a2 := hA2.cell 2
  have a3 := hA2.cell 3
  have q0 := hA2.frozen 0
  have q1 := hA2.frozen 1
  have q2 := hA2.frozen 2
  have q3 := hA2.frozen 3
  simp at a0 a1 a2 a3
  clear hR2 hk2 hA2
  go_wp2_with fail
  refine (readError_eof a _ (by exact HG2.out)).mono ?_
  rintro e w3 ⟨rfl, hw3⟩
  subst hw3
  go_wp2
  refine bodyPost_ret (v := .tuple #[.agg #[.int .u8 0, .int .u64 0, .int .u8 0, .slice none 0 0], .iface 88 (.pointer (some a))]) (by simp [results, Ybaf.results9, go_sem, a0, a1, a2, a3, hAw]) rfl ⟨rfl, ⟨ins2, last2, ?_⟩, ?_⟩
  · exact (RdrF.kept (X := fun k => k = w.heap.size) (HR2.out.rdrF []) (((((Kp.refl (fun k => k = w.heap.size) _).set (p := ⟨w.heap.size, 0, none⟩) (fun _ => rfl) _).set (p := ⟨w.heap.size, 1, none⟩) (fun _ => rfl) _).set (p := ⟨w.heap.size, 2, none⟩) (fun _ => rfl) _).set (p := ⟨w.heap.size, 3, none⟩) (fun _ => rfl) _ |>.alloc _) (fun i h => by omega)).rdr
  · exact ((((HK2.out.set (p := ⟨w.heap.size, 0, none⟩) (fun h => absurd h (Nat.lt_irrefl _)) _).set (p := ⟨w.heap.size, 1, none⟩) (fun h => absurd h (Nat.lt_irrefl _)) _).set (p := ⟨w.heap.size, 2, none⟩) (fun h => absurd h (Nat.lt_irrefl _)) _).set (p := ⟨w.heap.size, 3, none⟩) (fun h => absurd h (Nat.lt_irrefl _)) _).alloc _
end Go.Proofs.YbulkbpfuFmt
