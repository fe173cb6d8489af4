import Derived.Test.YbulkbpesDoorRows
import Derived.Test.YbulkbpesDoorPlain
import Derived.WalkKit
import Derived.ProofKit
import Derived.OpenShut
import Derived.ChangeOld
import Derived.Below
import Derived.Deep.OwnRows
import Derived.Deep.QuietTactic
import Derived.BigQuiet
import Derived.Laws.Bits64b
namespace Go.Proofs.YbulkbpesDoor
open Go.ChangeShapes Go.WideShapes Go.ChangeAt Go.RowKit
set_option linter.unusedVariables false

/-! ### math/bits.TrailingZeros64 (after the shelf's own walk) -/
def TabAt (w : World) : Prop := ∀ j, j < Lib.deBruijn64tab.length → w.cell? ⟨0, j, none⟩ = some (.int .u8 (Lib.deBruijn64tab.getD j 0))

set_option maxHeartbeats 1000000 in
theorem tz64_core (x k idx : Nat) (w : World) (hx0 : ((x : Int) == 0) = false)
    (key : IntKind.u64.wrap (bits BinOp.and IntKind.u64 (x : Int) (IntKind.u64.wrap (-(x : Int))) * 285870213051353865) / 288230376151711744 = (idx : Int))
    (hi : idx < 64) (hk : k < 64) (hcell : w.cell? ⟨0, idx, none⟩ = some (.int .u8 k)) :
    Calls Ybad.prog 13 #[.int .u64 x] w fun e w' => e = .returned (.int .i64 k) ∧ w' = w := by
  go_enter Ybad.func13, Ybad.ntmps13
  go_wp2_with (simp only [key])
  go_ret
  exact ⟨rfl, rfl⟩

theorem tz64_key (x a : Nat) (hx : x < 18446744073709551616) (hx0 : x ≠ 0) (hlow : x &&& (18446744073709551616 - x) = a) :
    IntKind.u64.wrap (bits BinOp.and IntKind.u64 (x : Int) (IntKind.u64.wrap (-(x : Int))) * 285870213051353865) / 288230376151711744 = ((a * 285870213051353865 % 18446744073709551616 / 288230376151711744 : Nat) : Int) := by
  have e1 : IntKind.u64.wrap (-(x : Int)) = ((18446744073709551616 - x : Nat) : Int) := by rw [IntKind.wrap_u64]; omega
  rw [e1, bits_and_u64_nat x _ hx (by omega), hlow, IntKind.wrap_u64]
  omega

theorem tz64 (x : Nat) (hx : x < 18446744073709551616) (hx0 : x ≠ 0) (w : World) (hT : TabAt w) :
    Calls Ybad.prog 13 #[.int .u64 x] w fun e w' => e = .returned (.int .i64 (Lib.ctz 64 x)) ∧ w' = w := by
  obtain ⟨hlow, hk⟩ := Lib.lowest_bit 64 x hx0 hx
  obtain ⟨hi, htab⟩ := Lib.deBruijn64_at _ hk
  refine tz64_core x _ _ w (by simpa using hx0) (tz64_key x _ hx hx0 hlow) hi hk ?_
  have := hT _ (show 2 ^ Lib.ctz 64 x * 285870213051353865 % 18446744073709551616 / 288230376151711744 < Lib.deBruijn64tab.length from hi)
  rw [htab] at this
  exact this

/-! ### the law's own builder of a table -/
theorem info21 : (Ybad.prog.info? 21).map (fun i => (i.zero, i.size, i.bytes)) = some (some (.int .i32 0), 1, 4) := by kernel_rfl
theorem info27 : (Ybad.prog.info? 27).map (fun i => (i.zero, i.size, i.bytes)) = some (some (.int .u64 0), 1, 8) := by kernel_rfl

/-- What the builder leaves: the struct at block T, its row of next states at block g. -/
structure Built (w w' : World) (N M g T : Nat) (v : Nat → Nat) : Prop where
  below : Below w.heap.size w w'
  hg : w.heap.size ≤ g
  hgT : g < T
  hT : T < w'.heap.size
  le : ∀ j, v j ≤ N
  row : ∀ j, j < M → w'.cell? ⟨g, j, none⟩ = some (.int .i32 (v j))
  c0 : w'.cell? ⟨T, 0, none⟩ = some (.int .i64 N)
  c3 : w'.cell? ⟨T, 3, none⟩ = some (.slice (some ⟨g, 0, none⟩) M M)

theorem row_store {w : World} {g M i x N : Nat} {v : Nat → Nat} (h : w.rowIs g 21 M (fun j => .int .i32 (v j))) (hv : ∀ j, v j ≤ N) (hx : x ≤ N) :
    ∃ v' : Nat → Nat, (∀ j, v' j ≤ N) ∧ (w.setCell ⟨g, i, none⟩ (.int .i32 (x : Int))).rowIs g 21 M (fun j => .int .i32 ((v' j : Nat) : Int)) := by
  refine ⟨fun j => if j = i then x else v j, fun j => ?_, (h.set i _).congr fun j _ => ?_⟩
  · show (if j = i then x else v j) ≤ N
    split
    · exact hx
    · exact hv j
  · show (if j = i then _ else _) = Value.int .i32 ((if j = i then x else v j : Nat) : Int)
    split <;> rfl

theorem built_of {w wr : World} {N M : Nat} {v : Nat → Nat} {A B : Array Value} {c1 c2 c4 c5 : Value} (hsz : wr.heap.size = w.heap.size + 1) (hbel : Below w.heap.size w wr) (hv : ∀ j, v j ≤ N)
    (hrow : wr.rowIs w.heap.size 21 M (fun j => .int .i32 (v j))) :
    Built w (((wr.alloc (.cells A 27)).alloc (.cells B 27)).alloc (.cells #[.int .i64 (N : Int), c1, c2, .slice (some ⟨w.heap.size, 0, none⟩) M M, c4, c5] 34)).drew N M w.heap.size (w.heap.size + 1 + 1 + 1) v := by
  refine ⟨(((hbel.alloc hbel.size _).alloc (by simp; omega) _).alloc (by simp; omega) _).drew, Nat.le_refl _, by omega, by simp [hsz], hv, fun j hj => (((hrow.alloc _).alloc _).alloc _).drew.cell hj, ?_, ?_⟩
  · rw [show w.heap.size + 1 + 1 + 1 = wr.heap.size + 1 + 1 by omega]; simp [go_sem]
  · rw [show w.heap.size + 1 + 1 + 1 = wr.heap.size + 1 + 1 by omega]; simp [go_sem]

set_option maxHeartbeats 2000000 in
theorem build_core (L N M : Nat) (s lab : Int) (a : Option Addr) (b off len cap : Nat) (zs : List Int) (w : World) (hs : 0 ≤ s ∧ s ≤ 255) (hN : s % 64 = N) (hlab : 0 ≤ lab ∧ lab ≤ 255) (hL : 1 + lab % 3 = L) (hM : (L : Int) * (N : Int) = M)
    (hNb : N ≤ 63) (hLb : 1 ≤ L ∧ L ≤ 3) (hMb : M ≤ 189)
    (hlen : len ≤ 9223372036854775807) (hb : b < w.heap.size) (ha : 0 < len → a = some ⟨b, off, none⟩) (hc : ∀ i, i < len → w.cell? ⟨b, off + i, none⟩ = some (.int .u8 (zs.getD i 0))) (hz : ∀ i, 0 ≤ zs.getD i 0 ∧ zs.getD i 0 ≤ 255) :
    Calls Ybad.prog 5 #[.int .u8 s, .int .i64 64, .slice a len cap, .int .u8 lab] w fun e w' => ∃ g T v, e = .returned (.tuple #[.pointer (some ⟨T, 0, none⟩), .int .i64 L, .int .i64 1]) ∧ Built w w' N M g T v := by
  have hmk := run_make_row' (P := Ybad.prog) 30 21 (.int .i32 0) 4 Ybad.underlying30 info21 rfl .i64 .i64 M (by omega) (by omega)
  rw [← hM] at hmk
  have hmk2 := run_make_row' (P := Ybad.prog) 23 27 (.int .u64 0) 8 Ybad.underlying23 info27 rfl .i64 .i64 L (by omega) (by omega)
  have HM2 : Hid _ := hmk2
  clear hmk2
  have HM : Hid ((L : Int) * (N : Int) = M) := hM
  have hMb' : (L : Int) * (N : Int) ≤ 189 := by omega
  have hM0' : 0 ≤ (L : Int) * (N : Int) := by omega
  have hN64 : N / 64 = 0 := by omega
  clear hM
  have hcase : len = 0 ∨ 0 < len := by omega
  rcases hcase with rfl | hpos
  case inr =>
    obtain rfl := ha hpos
    clear ha
    go_enter Ybad.func5, Ybad.ntmps5
    go_wp2
    rw [hN, HM.out]
    clear hN hL hmk hMb' hM0' hN64 hs hlab
    go_loopw [14, 15, 32] (fun s14 s15 i wr => ∃ k : Nat, k ≤ M ∧ i = .int .i64 k ∧ ∃ v : Nat → Nat, (∀ j, v j ≤ N) ∧ wr.rowIs w.heap.size 21 M (fun j => .int .i32 (v j)) ∧ wr.heap.size = w.heap.size + 1 ∧ Below w.heap.size w wr)
      (fun _ _ i _ => M - (intOf i).toNat)
    case atStart => exact ⟨0, Nat.zero_le _, rfl, fun _ => 0, fun _ => Nat.zero_le _, World.rowIs_made _ _ _ _, by simp, (Below.refl _ _).alloc (Nat.le_refl _) _⟩
    case round =>
      obtain ⟨k, hk, rfl, v, hv, hrow, hsz, hbel⟩ := hrel
      by_cases hlt : k < M
      · obtain ⟨z, hz0, hz1, hcx⟩ : ∃ z : Int, 0 ≤ z ∧ z ≤ 255 ∧ wr.cell? ⟨b, off + k % len, none⟩ = some (.int .u8 z) := ⟨_, (hz _).1, (hz _).2, (hbel.cell (by exact hb)).trans (hc _ (Nat.mod_lt _ hpos))⟩
        have hm1 : (k : Int) % (len : Int) < len := Int.emod_lt_of_pos _ (by omega)
        have hm0 : 0 ≤ (k : Int) % (len : Int) := Int.emod_nonneg _ (by omega)
        have hx1 : z % ((N : Int) + 1) < (N : Int) + 1 := Int.emod_lt_of_pos _ (by omega)
        have hx0 : 0 ≤ z % ((N : Int) + 1) := Int.emod_nonneg _ (by omega)
        have c0 : wr.cell? ⟨w.heap.size, k, none⟩ = some (.int .i32 (v k)) := hrow.cell hlt
        have f0 := hrow.frozen k
        have HR : Hid (wr.rowIs w.heap.size 21 M (fun j => .int .i32 (v j))) := hrow
        have HC : Hid (∀ i, i < len → w.cell? ⟨b, off + i, none⟩ = some (.int .u8 (zs.getD i 0))) := hc
        have HZ : Hid (∀ i, 0 ≤ zs.getD i 0 ∧ zs.getD i 0 ≤ 255) := hz
        clear hrow hc hz
        go_wp2
        obtain ⟨x, hx⟩ : ∃ x : Nat, z % ((N : Int) + 1) = x := ⟨(z % ((N : Int) + 1)).toNat, by omega⟩
        rw [hx]
        have hxN : x ≤ N := by omega
        obtain ⟨v', hv', hrow'⟩ := row_store (i := k) HR.out hv hxN
        go_roundw
        case rel => exact ⟨k + 1, by omega, by go_num, v', hv', hrow', by simp [hsz], hbel.setCell (by exact Nat.le_refl _) _⟩
        case measure => simp [intOf]; omega
      · obtain rfl : M = k := by omega
        have hq : (N : Int) / 64 = 0 := by omega
        have hmk2 := HM2.out
        have HR : Hid (wr.rowIs w.heap.size 21 M (fun j => .int .i32 (v j))) := hrow
        clear hrow hc hz HM2
        go_wp2
        go_region
        all_goals go_wp2
        all_goals go_ret3
        all_goals exact ⟨w.heap.size, w.heap.size + 1 + 1 + 1, v, rfl, built_of hsz hbel hv HR.out⟩
  case inl =>
    clear ha hc hz
    go_enter Ybad.func5, Ybad.ntmps5
    go_wp2
    rw [hN, HM.out]
    clear hN hL hmk hMb' hM0' hN64 hs hlab
    go_loopw [14, 15, 32] (fun s14 s15 i wr => ∃ k : Nat, k ≤ M ∧ i = .int .i64 k ∧ ∃ v : Nat → Nat, (∀ j, v j ≤ N) ∧ wr.rowIs w.heap.size 21 M (fun j => .int .i32 (v j)) ∧ wr.heap.size = w.heap.size + 1 ∧ Below w.heap.size w wr)
      (fun _ _ i _ => M - (intOf i).toNat)
    case atStart => exact ⟨0, Nat.zero_le _, rfl, fun _ => 0, fun _ => Nat.zero_le _, World.rowIs_made _ _ _ _, by simp, (Below.refl _ _).alloc (Nat.le_refl _) _⟩
    case round =>
      obtain ⟨k, hk, rfl, v, hv, hrow, hsz, hbel⟩ := hrel
      by_cases hlt : k < M
      · have c0 : wr.cell? ⟨w.heap.size, k, none⟩ = some (.int .i32 (v k)) := hrow.cell hlt
        have f0 := hrow.frozen k
        have HR : Hid (wr.rowIs w.heap.size 21 M (fun j => .int .i32 (v j))) := hrow
        clear hrow
        go_wp2
        obtain ⟨v', hv', hrow'⟩ := row_store (i := k) HR.out hv (Nat.le_refl N)
        go_roundw
        case rel => exact ⟨k + 1, by omega, by go_num, v', hv', hrow', by simp [hsz], hbel.setCell (by exact Nat.le_refl _) _⟩
        case measure => simp [intOf]; omega
      · obtain rfl : M = k := by omega
        have hq : (N : Int) / 64 = 0 := by omega
        have hmk2 := HM2.out
        have HR : Hid (wr.rowIs w.heap.size 21 M (fun j => .int .i32 (v j))) := hrow
        clear hrow HM2
        go_wp2
        go_region
        all_goals go_wp2
        all_goals go_ret3
        all_goals exact ⟨w.heap.size, w.heap.size + 1 + 1 + 1, v, rfl, built_of hsz hbel hv HR.out⟩
end Go.Proofs.YbulkbpesDoor
