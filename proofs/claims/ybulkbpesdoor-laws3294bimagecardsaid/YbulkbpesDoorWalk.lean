import Derived.Test.YbulkbpesDoorStep
import Derived.Deep.RegionWith
namespace Go.Proofs.YbulkbpesDoor
open Go.ChangeShapes Go.WideShapes Go.ChangeAt Go.RowKit
set_option linter.unusedVariables false

theorem hide {p : Prop} (h : p) : Hid p := h

set_option maxHeartbeats 2000000 in
theorem image_any (N M P l g T : Nat) (v : Nat → Nat) (S : Nat) (w : World) (hN : N ≤ 63) (hl : l ≤ 2) (hP : (l : Int) * (N : Int) = P) (hP1 : ((l : Int) + 1) * (N : Int) = (P : Int) + N) (hPM : P + N ≤ M) (hM : M ≤ 189) (hv : ∀ j, v j ≤ N) (hS : S < 2 ^ 64)
    (row : ∀ j, j < M → w.cell? ⟨g, j, none⟩ = some (.int .i32 (v j))) (c0 : w.cell? ⟨T, 0, none⟩ = some (.int .i64 N)) (c3 : w.cell? ⟨T, 3, none⟩ = some (.slice (some ⟨g, 0, none⟩) M M)) (hg : g < w.heap.size) (hTl : T < w.heap.size) (hT : TabAt w) (h0 : 0 < w.heap.size) :
    Calls Ybad.prog 12 #[.pointer (some ⟨T, 0, none⟩), .int .u64 S, .int .i32 l] w fun e w' =>
      e = .returned (.int .u64 (Plain.gath (tgt N P v) S 64)) ∧ Below w.heap.size w w' := by
  have HRow : Hid _ := row
  have HTab : Hid _ := hT
  clear row hT
  go_enter Ybad.func12, Ybad.ntmps12
  go_wp2_with fail
  have past : ∀ (b o : Nat), b < w.heap.size → ((w.alloc (.cells #[.int .u64 0] 42)).alloc (.cells #[.int .u64 (S : Int)] 27)).cell? ⟨b, o, none⟩ = w.cell? ⟨b, o, none⟩ := fun b o h => by
    rw [World.cell?_alloc_past _ _ _ (by simp; omega), World.cell?_alloc_past _ _ _ h]
  refine (step_any N M P l g T (w.heap.size + 1) w.heap.size v S _ hN hl hP hP1 hPM hM hv hS ⟨fun j hj => (past _ _ hg).trans (HRow.out j hj), (past _ _ hTl).trans c0, (past _ _ hTl).trans c3, by simp [go_sem], by simp [go_sem], by simp [go_sem], by omega, by omega, by omega⟩ (fun j hj => (past _ _ h0).trans (HTab.out j hj)) (by omega)).mono ?_
  clear past
  rintro e w1 ⟨rfl, hx, hg1⟩
  go_wp2
  go_ret
  exact ⟨rfl, (((Below.refl _ _).alloc (Nat.le_refl _) _).alloc (by simp) _).grown hg1 (by simp; omega) (fun k hk => by cases hk; exact Nat.le_refl _)⟩

set_option maxHeartbeats 2000000 in
theorem walk (s lab pick : Int) (a : Option Addr) (b off len cap : Nat) (zs : List Int) (S : Nat) (w : World) (hs : 0 ≤ s ∧ s ≤ 255) (hlab : 0 ≤ lab ∧ lab ≤ 255) (hpick : 0 ≤ pick ∧ pick ≤ 255) (hS : S < 2 ^ 64)
    (hlen : len ≤ 9223372036854775807) (hb : b < w.heap.size) (ha : 0 < len → a = some ⟨b, off, none⟩) (hc : ∀ i, i < len → w.cell? ⟨b, off + i, none⟩ = some (.int .u8 (zs.getD i 0))) (hz : ∀ i, 0 ≤ zs.getD i 0 ∧ zs.getD i 0 ≤ 255) (hT : TabAt w) (h0 : 0 < w.heap.size) :
    Calls Ybad.prog 4 #[.int .u8 s, .slice a len cap, .int .u8 lab, .int .u8 pick, .int .u64 S] w fun e w' => e = .returned (.bool true) ∧ Below w.heap.size w w' := by
  obtain ⟨N, hN⟩ : ∃ N : Nat, s % 64 = N := ⟨(s % 64).toNat, by omega⟩
  obtain ⟨L, hL⟩ : ∃ L : Nat, 1 + lab % 3 = L := ⟨(1 + lab % 3).toNat, by omega⟩
  have hNb : N ≤ 63 := by omega
  have hLb : 1 ≤ L ∧ L ≤ 3 := by omega
  obtain ⟨M, hM⟩ : ∃ M : Nat, (L : Int) * (N : Int) = M := ⟨L * N, by simp⟩
  have hM2 : L * N = M := by have := hM; rw [← Int.natCast_mul] at this; omega
  have hMb : M ≤ 189 := by rw [← hM2]; exact Nat.mul_le_mul hLb.2 hNb
  obtain ⟨l, hl⟩ : ∃ l : Nat, pick % (L : Int) = l := ⟨(pick % (L : Int)).toNat, by have := Int.emod_nonneg pick (show (L : Int) ≠ 0 by omega); omega⟩
  have hlL : l < L := by have := Int.emod_lt_of_pos pick (show (0 : Int) < L by omega); omega
  obtain ⟨P, hP⟩ : ∃ P : Nat, (l : Int) * (N : Int) = P := ⟨l * N, by simp⟩
  have hP2 : l * N = P := by have := hP; rw [← Int.natCast_mul] at this; omega
  have hP1 : ((l : Int) + 1) * (N : Int) = (P : Int) + N := by rw [Int.add_mul, hP]; omega
  have hPM : P + N ≤ M := by
    rw [← hM2, ← hP2]
    have : (l + 1) * N ≤ L * N := Nat.mul_le_mul_right _ hlL
    rw [Nat.add_mul] at this; omega
  have hmk : ∀ w, (Instr.makeSlice 23 (.int .i64 1) (.int .i64 1)).run Ybad.prog w = .ok (.slice (some ⟨w.heap.size, 0, none⟩) 1 1) (w.alloc (.cells #[.int .u64 0] 27)) := fun _ => by kernel_rfl
  have H1 := hide (build_core L N M s lab a b off len cap zs w hs hN hlab hL hM hNb hLb hMb hlen hb ha hc hz)
  have HPP : Hid _ := And.intro hP hP1
  have HTab : Hid _ := hT
  clear hN hL hM hM2 hP2 hP hP1 ha hc hz hT hlab hs
  go_enter Ybad.func4, Ybad.ntmps4
  go_wp2_with fail
  refine H1.out.mono ?_
  rintro e w1 ⟨g, T, v, rfl, hbt⟩
  obtain ⟨hbel, hg, hgT, hTs, hv, row, c0, c3⟩ := hbt
  have hTab1 : TabAt w1 := fun j hj => (hbel.cell (by exact h0)).trans (HTab.out j hj)
  have HR : Hid _ := row
  have HT1 : Hid _ := hTab1
  have HV : Hid _ := hv
  clear row hTab1 H1 HTab hv
  have hsz1 := hbel.size
  go_wp2_with fail
  have past : ∀ (b o : Nat), b < w1.heap.size → ((w1.alloc (.cells #[.int .u64 0] 27)).alloc (.cells #[.int .u64 (S : Int)] 27)).cell? ⟨b, o, none⟩ = w1.cell? ⟨b, o, none⟩ := fun b o h => by
    rw [World.cell?_alloc_past _ _ _ (by simp; omega), World.cell?_alloc_past _ _ _ h]
  refine (model_any N M P l g T (w1.heap.size + 1) w1.heap.size v S _ hNb (by omega) HPP.out.1 hPM hMb HV.out hS ⟨fun j hj => (past _ _ (by omega)).trans (HR.out j hj), (past _ _ hTs).trans c0, (past _ _ hTs).trans c3, by simp [go_sem], by simp [go_sem], by simp [go_sem], by omega, by omega, by omega⟩).mono ?_
  rintro e w2 ⟨rfl, hx, hg2⟩
  have keep : ∀ (b o : Nat) (u : Value), b < w1.heap.size → w1.cell? ⟨b, o, none⟩ = some u → w2.cell? ⟨b, o, none⟩ = some u := fun b o u h hu => hg2.cell ((past b o h).trans hu) (by simp; omega)
  have hsz2 : w1.heap.size + 2 ≤ w2.heap.size := by have := hg2.size; simp at this; omega
  have HI := hide (fun (W : World) (hW : W.heap = w2.heap) => image_any N M P l g T v S W hNb (by omega) HPP.out.1 HPP.out.2 hPM hMb HV.out hS
    (fun j hj => (World.cell?_of_block (by rw [hW])).trans (keep _ _ _ (by omega) (HR.out j hj))) ((World.cell?_of_block (by rw [hW])).trans (keep _ _ _ hTs c0)) ((World.cell?_of_block (by rw [hW])).trans (keep _ _ _ hTs c3)) (by rw [hW]; omega) (by rw [hW]; omega)
    (fun j hj => (World.cell?_of_block (by rw [hW])).trans (keep _ _ _ (by omega) (HT1.out j hj))) (by rw [hW]; omega))
  have hb2 : Below w.heap.size w w2 := ((hbel.alloc hsz1 _).alloc (by simp; omega) _).grown hg2 (by simp; omega) (fun k hk => by cases hk; exact hsz1)
  clear past keep c0 c3 hg2
  generalize Plain.gath (tgt N P v) S 64 = R at hx HI
  go_wp2_with fail
  go_region_with (go_at_call 12; refine (HI.out w2.drew rfl).mono ?_; rintro e w3 ⟨rfl, hb3⟩; have hx3 : w3.cell? ⟨w1.heap.size, 0, none⟩ = some (.int .u64 (R : Int)) := (hb3.cell (show w1.heap.size < w2.heap.size by omega)).trans hx)
  all_goals go_wp2
  all_goals go_ret
  all_goals exact ⟨rfl, hb2.trans (Below.mono ⟨hb3.os, hb3.tape, hb3.output, hb3.size, hb3.block⟩ hb2.size)⟩
end Go.Proofs.YbulkbpesDoor
