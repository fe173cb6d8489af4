import Derived.Test.YbulkbpfuFmtIs
import Derived.Stop.LaidTwo
namespace Go.Proofs.YbulkbpfuFmt
open Go.ChangeShapes Go.WideShapes Go.ChangeAt Go.RowKit Go.Extern.Stop Go.Stop Go.Extern
set_option linter.unusedVariables false

/-- Two errors of errors.New's make at two addresses are two. -/
theorem eql_other {a b : Addr} {ca cb : Array Value} {ta tb : TypeId} {w : World} (hne : a ≠ b) (ha : w.heap[a.block]? = some (.cells ca ta (0, 0))) (hb : w.heap[b.block]? = some (.cells cb tb (0, 0))) :
    (binOp .eql 36 (.iface 88 (.pointer (some a))) (.iface 88 (.pointer (some b)))).run Ybaf.prog w = .ok (.bool false) w := by
  obtain ⟨i, hi, hcmp⟩ := Option.map_eq_some_iff.1 isComp
  obtain ⟨j, hj, hjs⟩ := Option.map_eq_some_iff.1 isSize
  exact run_eql_iface_ptr_other w Ybaf.underlying36 Ybaf.underlying88 hi hcmp hj (by rw [hjs]; decide) hne ha hb

theorem cell_new2 (w : World) (o : Obj) (t : TypeId) (x y : Value) : (((w.alloc o).alloc (.cells #[x, y] t)).drew).cell? ⟨w.heap.size + 1, 1, none⟩ = some y := by
  have h := (Is.new (w.alloc o) t #[x, y]).cell 1
  rw [Deep.nblk_alloc] at h
  exact h

set_option maxRecDepth 100000 in
set_option maxHeartbeats 4000000 in
/-- readError wraps an error that is not the end's. -/
theorem readError_wrap (Fi : Interp) (n : Nat) (ea : Addr) (s : ByteArray) (cb : Array Value) (tb : TypeId) (w : World) (hF : Fi.answers w.tape) (hg : w.cell? ⟨0, 0, none⟩ = some (.iface 88 (.pointer (some ea))))
    (hne : (⟨n, 0, none⟩ : Addr) ≠ ea) (ha : Is w n 90 #[.string s]) (hb : w.heap[ea.block]? = some (.cells cb tb (0, 0))) :
    Calls Ybaf.prog 18 #[.iface 88 (.pointer (some ⟨n, 0, none⟩))] w fun e w' => ∃ pb, e = .returned (.iface 123 (.pointer (some ⟨pb, 0, none⟩))) ∧ w'.cell? ⟨pb, 1, none⟩ = some (.iface 88 (.pointer (some ⟨n, 0, none⟩))) ∧ w.heap.size ≤ pb ∧ Kp (fun _ => False) w w' := by
  have hF' : ∀ i name reading k range, w.tape i (.extern (word name reading k) range) = Fi name reading k := hF
  have hs : ∀ o, (w.alloc o).cell? ⟨n, 0, none⟩ = some (.string s) := fun o => by rw [(ha.alloc o).cell 0]; rfl
  have hop := fun o => opPlain88 "fmt.errorf" ⟨n, 0, none⟩ s _ (hs o)
  have heq := eql_other hne ha hb
  have h1 := call39
  have h2 := fguard
  have h3 := fmt0
  have h4 := fmt0r
  have h5 := ptr88
  have h6 := elem88
  have h7 := isError88
  have h8 := ptr123
  have h9 := elem123
  have h10 := isError123
  clear ha hb hF
  go_enter Ybaf.func18, Ybaf.ntmps18
  go_wp2
  go_ret
  exact ⟨w.heap.size + 1, rfl, cell_new2 _ _ _ _ _, by omega, (((Kp.refl _ w).alloc _).alloc _).drew⟩

set_option maxRecDepth 100000 in
set_option maxHeartbeats 4000000 in
/-- Next at the end of a stream whose reader fails with an error of its own. -/
theorem next_wrap (Fi : Interp) (R B F S n : Nat) (stv : Value) (ea : Addr) (s : ByteArray) (cb : Array Value) (tb : TypeId) (bs : List Int) (base : Nat) (ins : Bool) (last : Int) (w : World) (h : Rdr w R B F S stv 88 (.pointer (some ⟨n, 0, none⟩)) bs [] base ins last)
    (hF : Fi.answers w.tape) (g0 : w.cell? ⟨0, 0, none⟩ = some (.iface 88 (.pointer (some ea)))) (hne : (⟨n, 0, none⟩ : Addr) ≠ ea) (ha : Is w n 90 #[.string s]) (hb : w.heap[ea.block]? = some (.cells cb tb (0, 0))) (hn : n < S) (hea : ea.block < S) :
    Calls Ybaf.prog 9 #[.pointer (some ⟨R, 0, none⟩)] w fun e w' => ∃ pb, e = .returned (.tuple #[.agg #[.int .u8 0, .int .u64 0, .int .u8 0, .slice none 0 0], .iface 123 (.pointer (some ⟨pb, 0, none⟩))]) ∧ w'.cell? ⟨pb, 1, none⟩ = some (.iface 88 (.pointer (some ⟨n, 0, none⟩))) ∧ Kp (All R B F S) w w' := by
  have hRw : R < w.heap.size := by obtain ⟨f, hf, _⟩ := h.row; exact hf.lt
  have hord := And.intro h.hFR (And.intro h.buf.hSB h.buf.hBF)
  have h0 := ((h.rdrF []).kept ((Kp.refl (fun _ => False) w).alloc (.cells #[.int .u8 0, .int .u64 0, .int .u8 0, .slice none 0 0] 40)) (fun _ h => h.elim)).rdr
  have H1 := hide (findStart_none R B F S stv 88 (.pointer (some ⟨n, 0, none⟩)) bs [] [] base ins last _ h0 (fun _ h => by simp at h) (.inl rfl))
  have HG := hide g0
  have HA := hide ha
  have HB := hide hb
  have HF := hide hF
  clear h h0 g0 ha hb hF
  go_enter Ybaf.func9, Ybaf.ntmps9
  go_wp2
  refine wp_loop_rounds 1 ?_
  rw [rounds_succ]
  go_wp2_with fail
  refine H1.out.mono ?_
  rintro e w2 ⟨rfl, ⟨ins1, last1, hR1⟩, hk1⟩
  have hA2 := hk1.is (Is.new w 40 #[.int .u8 0, .int .u64 0, .int .u8 0, .slice none 0 0]) (by omega)
  have HK2 := hide (((Kp.refl (All R B F S) w).alloc _).trans hk1)
  have HA2 := hide hA2
  have HG2 := hide (HK2.out.cell HG.out (by omega))
  have HX2 := hide (HK2.out.is HA.out (by omega))
  have HB2 := hide ((HK2.out.block ea.block (Array.getElem?_eq_some_iff.1 HB.out).1 (by omega)).trans HB.out)
  have HF2 := hide (show Fi.answers w2.tape by rw [HK2.out.tape]; exact HF.out)
  clear hR1 hk1 H1 hA2
  go_wp2_with fail
  refine (readError_wrap Fi n ea s cb tb _ HF2.out HG2.out hne HX2.out HB2.out).mono ?_
  rintro e w3 ⟨pb, rfl, hc3, hp3, hk3⟩
  have hA3 := hk3.is HA2.out (fun h => h)
  have HK3 := hide (HK2.out.trans (hk3.mono (fun _ h => h.elim)))
  have hAw : w.heap.size < w3.heap.size := hA3.lt
  have hpw : ¬ pb = w.heap.size := by have := HA2.out.lt; omega
  have a0 := hA3.cell 0
  have a1 := hA3.cell 1
  have a2 := hA3.cell 2
  have a3 := hA3.cell 3
  have q0 := hA3.frozen 0
  have q1 := hA3.frozen 1
  have q2 := hA3.frozen 2
  have q3 := hA3.frozen 3
  simp at a0 a1 a2 a3
  have HC3 := hide hc3
  clear hA3 hk3 hc3
  go_wp2
  refine bodyPost_ret (v := .tuple #[.agg #[.int .u8 0, .int .u64 0, .int .u8 0, .slice none 0 0], .iface 123 (.pointer (some ⟨pb, 0, none⟩))]) (by simp [results, Ybaf.results9, go_sem, a0, a1, a2, a3]) rfl ⟨pb, rfl, ?_, ?_⟩
  · exact Kp.cell (S := fun k => k = w.heap.size) ((((Kp.refl (fun k => k = w.heap.size) _).set (p := ⟨w.heap.size, 0, none⟩) (fun _ => rfl) _).set (p := ⟨w.heap.size, 1, none⟩) (fun _ => rfl) _).set (p := ⟨w.heap.size, 2, none⟩) (fun _ => rfl) _ |>.set (p := ⟨w.heap.size, 3, none⟩) (fun _ => rfl) _) HC3.out hpw
  · exact (((HK3.out.set (p := ⟨w.heap.size, 0, none⟩) (fun h => absurd h (Nat.lt_irrefl _)) _).set (p := ⟨w.heap.size, 1, none⟩) (fun h => absurd h (Nat.lt_irrefl _)) _).set (p := ⟨w.heap.size, 2, none⟩) (fun h => absurd h (Nat.lt_irrefl _)) _).set (p := ⟨w.heap.size, 3, none⟩) (fun h => absurd h (Nat.lt_irrefl _)) _
end Go.Proofs.YbulkbpfuFmt
