/-
  What is left of the stream when no whole frame is left: Next answers io.EOF.
-/
import Derived.Test.YbulkbpfuFmtFr
namespace Go.Proofs.YbulkbpfuFmt
open Go.ChangeShapes Go.WideShapes Go.ChangeAt Go.RowKit
set_option linter.unusedVariables false

theorem neq_same (a : Addr) (w : World) : (binOp .neq 36 (.iface 88 (.pointer (some a))) (.iface 88 (.pointer (some a)))).run Ybaf.prog w = .ok (.bool false) w := by
  obtain ⟨i, hi, hc⟩ := Option.map_eq_some_iff.1 info88
  obtain ⟨j, hj, _⟩ : ∃ j, Ybaf.prog.info? 90 = some j ∧ True := by
    cases h : Ybaf.prog.info? 90 with
    | none => have := info90; rw [h] at this; cases this
    | some j => exact ⟨j, rfl, trivial⟩
  simp only [binOp]
  simp [Op.equal, Op.maxDepth, run_equalIn_iface_ptr_same w 9998 a Ybaf.underlying36 Ybaf.underlying88 hi hc hj]

/-- No whole frame is left. -/
def Tail (rest : List Int) (ins : Bool) (last : Int) : Prop :=
  (∃ junk tl, rest = junk ++ tl ∧ (∀ x ∈ junk, x ≠ 26) ∧ (tl = [] ∨ (tl = [26] ∧ (ins = true ∨ last ≠ 26)))) ∨
  (∃ (junk p more raw : List Int) (t : Int) (n : Nat), TL t n ∧ rest = junk ++ 26 :: t :: p ∧ (∀ x ∈ junk, x ≠ 26) ∧ (ins = true ∨ last ≠ 26) ∧ raw.length = 7 + n ∧ p ++ more = esc raw ∧ more ≠ [])

theorem Tail.nil (ins : Bool) (last : Int) : Tail [] ins last := .inl ⟨[], [], rfl, fun _ h => by simp at h, .inl rfl⟩

/-- Junk, and a frame that the end cuts short. -/
theorem Tail.cut (junk : List Int) (f : Fr) (h : 0 ≤ f.K) (kk : Nat) (hk : kk < f.enc.length) (hj : ∀ x ∈ junk, x ≠ 26) (last : Int) : Tail (junk ++ f.enc.take kk) true last := by
  unfold Fr.enc at *
  match kk, hk with
  | 0, _ => exact .inl ⟨junk, [], by simp, hj, .inl rfl⟩
  | 1, _ => exact .inl ⟨junk, [26], by simp, hj, .inr ⟨rfl, .inl rfl⟩⟩
  | k + 2, hk =>
    refine .inr ⟨junk, (esc f.raw).take k, (esc f.raw).drop k, f.raw, f.t, f.n, (f.kt h).tl, by simp, hj, .inl rfl, f.raw_len, List.take_append_drop _ _, ?_⟩
    simp at hk
    intro e
    rw [List.drop_eq_nil_iff] at e
    omega

theorem next_eof (R B F S : Nat) (stv : Value) (a : Addr) (bs rest : List Int) (base : Nat) (ins : Bool) (last : Int) (w : World) (h : Rdr w R B F S stv 88 (.pointer (some a)) bs rest base ins last) (ht : Tail rest ins last)
    (g0 : w.cell? ⟨0, 0, none⟩ = some (.iface 88 (.pointer (some a)))) (hS0 : 0 < S) :
    Calls Ybaf.prog 9 #[.pointer (some ⟨R, 0, none⟩)] w fun e w' => e = .returned (.tuple #[.agg #[.int .u8 0, .int .u64 0, .int .u8 0, .slice none 0 0], .iface 88 (.pointer (some a))]) ∧ (∃ ins' last', Rdr w' R B F S stv 88 (.pointer (some a)) bs [] base ins' last') ∧ Kp (All R B F S) w w' := by
  rcases ht with ⟨junk, tl, rfl, hj, hs⟩ | ⟨junk, p, more, raw, t, n, ht, rfl, hj, hs, hl, hp, hm⟩
  · exact next_eof1 R B F S stv a bs junk tl base ins last w h hj hs g0 hS0
  · exact next_eof2 R B F S stv a bs junk p more raw base ins last t n ht w h hj hs hl hp hm g0 hS0

theorem made_size (m : Nat) : (madeCells #[.int .u8 0] m).size = m := size_madeCells _ _
theorem buf0_size : buf0.size = 4096 := made_size 4096
theorem row_of_is {w : World} {b N : Nat} {t : TypeId} {c : Array Value} (h : Is w b t c) (hs : c.size = N) : ∃ f, w.rowIs b t N f :=
  ⟨fun i => c[i]?.getD undef, c, h, hs, fun i hi => by simp [show i < c.size by omega]⟩
theorem buf0_row {w : World} {b : Nat} (h : Is w b 5 buf0) : ∃ f, w.rowIs b 5 4096 f := row_of_is h buf0_size

/-- The reader that NewReader makes, over the law's source. -/
theorem rdr_new {w4 w5 : World} {base : Nat} {v : Value} {bs : List Int} {ea : Addr} {B : Nat} {c : Array Value} (hO : Out w4 base 0 v bs) (hlen : bs.length ≤ 1000000) (hB : B = w4.heap.size + 1)
    (h1 : Is w5 B 101 (brc (B + 1) w4.heap.size 0 0 .nilIface (.int .i64 (-1)) (.int .i64 (-1)))) (h2 : Is w5 (B + 1) 5 buf0) (h3 : Is w5 (B + 1 + 1) 82 c) (hc : c.size = 25) (k0 : c[0]? = some (.pointer (some ⟨B, 0, none⟩))) (k1 : c[1]? = some (.bool true)) (k2 : c[2]? = some (.int .u8 0)) (k3 : c[3]? = some (.int .u8 0))
    (hk : Kp (fun _ => False) (w4.alloc (.cells #[v, .int .i64 0, .iface 88 (.pointer (some ea))] 38)) w5) :
    Rdr w5 (B + 1 + 1) B (B + 1) w4.heap.size v 88 (.pointer (some ea)) bs bs base true 0 := by
  subst hB
  obtain ⟨f, hf⟩ := buf0_row h2
  refine ⟨⟨⟨0, 0, 0, [], .int .i64 (-1), .int .i64 (-1), f, h1, hf, hk.is (Is.new w4 38 _) (fun h => h), rfl, by omega, by omega, fun j hj => by simp at hj, by simp⟩, ?_, fun k hk => (hO.own.lt k hk).2, by omega, by omega, hlen⟩,
    ⟨fun i => c[i]?.getD undef, ⟨c, h3, hc, fun i hi => ?_⟩, by simp [k0], by simp [k1], by simp [k2], by simp [k3]⟩, by omega⟩
  · exact hk.row (hO.own.alloc _) (fun _ _ h => h)
  · simp [show i < c.size by omega]
end Go.Proofs.YbulkbpfuFmt
