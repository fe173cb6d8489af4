import Derived.Test.YbulkbpfuFmtEnc
namespace Go.Proofs.YbulkbpfuFmt
open Go.ChangeShapes Go.WideShapes Go.ChangeAt Go.RowKit
set_option linter.unusedVariables false

set_option maxRecDepth 100000 in
set_option maxHeartbeats 4000000 in
theorem asame_any (R g n : Nat) (t : Int) (raw : List Int) (w : World) (hn : n ≤ 14) (hR : ∀ j, j < 7 + n → w.cell? ⟨R, 4 + j, none⟩ = some (.int .u8 (raw.getD j 0))) (hg : ∀ j, j < 7 + n → w.cell? ⟨g, j, none⟩ = some (.int .u8 (raw.getD j 0))) (hRw : R < w.heap.size) (hgw : g < w.heap.size) :
    Calls Ybaf.prog 10 #[.agg #[.int .u8 t, .int .u64 (cnt raw 6), .int .u8 (raw.getD 6 0), .slice (some ⟨R, 11, none⟩) n 14], .int .u8 t, .slice (some ⟨g, 0, none⟩) (7 + n) (7 + n)] w fun e w' => e = .returned (.bool true) ∧ Kp (fun _ => False) w w' := by
  obtain ⟨s6, hs6⟩ : ∃ s, raw.getD 6 0 = s := ⟨_, rfl⟩
  obtain ⟨c6, hc6⟩ : ∃ c, cnt raw 6 = c := ⟨_, rfl⟩
  have h6 := hg 6 (by omega)
  rw [hs6] at h6 ⊢
  rw [hc6]
  have HC6 := hide hc6
  have HR := hide hR
  have HG := hide hg
  clear hR hg hs6 hc6
  go_enter Ybaf.func10, Ybaf.ntmps10
  go_wp2
  have HK0 := hide (show ∀ (b o : Nat) (u : Value), b < w.heap.size → w.cell? ⟨b, o, none⟩ = some u → (w.alloc (.cells #[.int .u8 t, .int .u64 c6, .int .u8 s6, .slice (some ⟨R, 11, none⟩) n 14] 40)).cell? ⟨b, o, none⟩ = some u from fun b o u h hu => by rw [World.cell?_alloc_past _ _ _ h]; exact hu)
  have h6' := HK0.out g 6 _ hgw h6
  have HKP := hide (show Kp (fun _ => False) w (w.alloc (.cells #[.int .u8 t, .int .u64 c6, .int .u8 s6, .slice (some ⟨R, 11, none⟩) n 14] 40)) from (Kp.refl _ w).alloc _)
  have i0 := Is.new w 40 #[.int .u8 t, .int .u64 c6, .int .u8 s6, .slice (some ⟨R, 11, none⟩) n 14]
  have e0 : (w.alloc (.cells #[.int .u8 t, .int .u64 c6, .int .u8 s6, .slice (some ⟨R, 11, none⟩) n 14] 40)).cell? ⟨w.heap.size, 0, none⟩ = some (.int .u8 t) := i0.cell 0
  have e1 : (w.alloc (.cells #[.int .u8 t, .int .u64 c6, .int .u8 s6, .slice (some ⟨R, 11, none⟩) n 14] 40)).cell? ⟨w.heap.size, 1, none⟩ = some (.int .u64 c6) := i0.cell 1
  have e2 : (w.alloc (.cells #[.int .u8 t, .int .u64 c6, .int .u8 s6, .slice (some ⟨R, 11, none⟩) n 14] 40)).cell? ⟨w.heap.size, 2, none⟩ = some (.int .u8 s6) := i0.cell 2
  have e3 : (w.alloc (.cells #[.int .u8 t, .int .u64 c6, .int .u8 s6, .slice (some ⟨R, 11, none⟩) n 14] 40)).cell? ⟨w.heap.size, 3, none⟩ = some (.slice (some ⟨R, 11, none⟩) n 14) := i0.cell 3
  have hs : w.heap.size < (w.alloc (.cells #[.int .u8 t, .int .u64 c6, .int .u8 s6, .slice (some ⟨R, 11, none⟩) n 14] 40)).heap.size := by simp
  clear h6 i0
  generalize hA : w.heap.size = A at *
  generalize w.alloc (.cells #[.int .u8 t, .int .u64 c6, .int .u8 s6, .slice (some ⟨R, 11, none⟩) n 14] 40) = W at *
  clear hA
  go_loop [7, 8] (fun c i => ∃ k : Nat, k ≤ 6 ∧ i = .int .i64 k ∧ c = .int .u64 (cnt raw k)) (fun _ i => 6 - (intOf i).toNat)
  case atStart => exact ⟨0, by omega, rfl, rfl⟩
  case round =>
    obtain ⟨k, hk6, rfl, rfl⟩ := hrel
    by_cases hk : k < 6
    · have hck := HK0.out g k _ hgw (HG.out k (by omega))
      go_wp2
      go_round
      case rel => exact ⟨k + 1, by omega, by go_num, by rw [cnt_succ]; rfl⟩
      case measure => simp [intOf]; omega
    · obtain rfl : k = 6 := by omega
      rw [HC6.out]
      have hw : IntKind.i64.wrap (7 + (n : Int) - 7) = (n : Int) := by rw [IntKind.wrap_i64]; omega
      have h67 : (6 : Int) < 7 + (n : Int) := by omega
      go_wp2
      go_quiet (fail)
      go_wp2
      go_loopw [9, 52] (fun s9 i wr => ∃ k q : Nat, k ≤ n ∧ i = .int .i64 k ∧ wr = W.drewN q) (fun _ i _ => n - (intOf i).toNat)
      case atStart => exact ⟨0, _, by omega, rfl, rfl⟩
      case round =>
        obtain ⟨k, q, hkn, rfl, rfl⟩ := hrel
        by_cases hk : k < n
        · have r1 : W.cell? ⟨R, 11 + k, none⟩ = some (.int .u8 (raw.getD (7 + k) 0)) := by
            have := HK0.out R (4 + (7 + k)) _ hRw (HR.out (7 + k) (by omega))
            rw [show 11 + k = 4 + (7 + k) from by omega]
            exact this
          have r2 := HK0.out g (7 + k) _ hgw (HG.out (7 + k) (by omega))
          generalize raw.getD (7 + k) 0 = x at r1 r2
          have hi0 : (0 : Int) ≤ (k : Int) := by omega
          have hi1 : (k : Int) < (n : Int) := by omega
          have hi2 : 7 + (k : Int) < 7 + (n : Int) := by omega
          have hi3 : IntKind.i64.wrap (7 + (k : Int)) = 7 + (k : Int) := by rw [IntKind.wrap_i64]; omega
          have hi4 : (0 : Int) ≤ 7 + (k : Int) := by omega
          have hi5 : (7 + (k : Int)).toNat = 7 + k := by omega
          go_wp2
          go_quiet (fail)
          go_wp2
          go_roundw
          case rel => exact ⟨k + 1, _, by omega, by go_num, rfl⟩
          case measure => simp [intOf]; omega
        · go_wp2
          go_ret
          exact ⟨rfl, HKP.out.drewN _⟩
end Go.Proofs.YbulkbpfuFmt
