import Derived.Test.YbulkbpfuFmtMem
namespace Go.Proofs.YbulkbpfuFmt
open Go.ChangeShapes Go.WideShapes Go.ChangeAt Go.RowKit
set_option linter.unusedVariables false

theorem info5 : (Ybaf.prog.info? 5).map (·.size) = some 1 := by kernel_rfl

/-- (*zzs3296asrc).Read at the stream's end. -/
theorem read_none (S F n cap i : Nat) (ao : Option Addr) (E : Value) (w : World) (hn : n ≤ 1000000) (hS : Is w S 38 #[.slice ao n cap, .int .i64 i, E]) (hi : n ≤ i) (hi2 : i ≤ 1000000) :
    Calls Ybaf.prog 67 #[.pointer (some ⟨S, 0, none⟩), .slice (some ⟨F, 0, none⟩) 4096 4096] w fun e w' => e = .returned (.tuple #[.int .i64 0, E]) ∧ ∃ q, w' = w.drewN q := by
  have c0 := hS.cell 0
  have c1 := hS.cell 1
  have c2 := hS.cell 2
  simp at c0 c1 c2
  have hge : (n : Int) ≤ (i : Int) := by omega
  clear hS
  go_enter Ybaf.func67, Ybaf.ntmps67
  go_wp2
  go_quiet (fail)
  go_wp2
  go_quiet (fail)
  go_wp2
  go_ret2
  exact ⟨rfl, _, World.drewN_drewN _ _ _⟩

theorem srcs (w : World) (g i m : Nat) (bs : List Int) (hc : ∀ j, j < m → w.cell? ⟨g, i + j, none⟩ = some (.int .u8 (bs.getD (i + j) 0))) :
    ∀ j v, ((List.range m).map fun j => Value.int .u8 (bs.getD (i + j) 0))[j]? = some v → w.cell? ((⟨g, i, none⟩ : Addr).add j) = some v := by
  intro j v h
  rw [List.getElem?_map] at h
  have hj : j < m := by
    apply Nat.lt_of_not_le
    intro hle
    rw [List.getElem?_eq_none (by simpa using hle)] at h
    simp at h
  rw [List.getElem?_range hj] at h
  simp at h
  subst h
  rw [Addr.add_lit, hc j hj]
  simp

set_option maxHeartbeats 2000000 in
theorem read_some (S F g n cap i m : Nat) (E : Value) (bs : List Int) (f : Nat → Value) (w : World) (hn : n ≤ 1000000) (hnc : n ≤ cap) (hS : Is w S 38 #[.slice (some ⟨g, 0, none⟩) n cap, .int .i64 i, E]) (hF : w.rowIs F 5 4096 f)
    (hi : i < n) (hm : (3 < n - i ∧ m = 3) ∨ (n - i ≤ 3 ∧ m = n - i)) (hSF : S ≠ F) (hgF : g ≠ F) (hgS : g ≠ S) (hc : ∀ j, j < n → w.cell? ⟨g, j, none⟩ = some (.int .u8 (bs.getD j 0))) :
    Calls Ybaf.prog 67 #[.pointer (some ⟨S, 0, none⟩), .slice (some ⟨F, 0, none⟩) 4096 4096] w fun e w' => e = .returned (.tuple #[.int .i64 m, .nilIface]) ∧
      ∃ q, w' = ((w.drewN q).setCells F 0 ((List.range m).map fun j => Value.int .u8 (bs.getD (i + j) 0))).setCell ⟨S, 1, none⟩ (.int .i64 ((i : Int) + m)) := by
  have c0 := hS.cell 0
  have c1 := hS.cell 1
  have c2 := hS.cell 2
  have f1 := hS.frozen 1
  simp at c0 c1 c2
  have HSRC := hide (srcs w g i m bs (fun j hj => hc _ (by omega)))
  have HFC := hide (show ∀ j, j < m → (w.cell? ⟨F, 0 + j, none⟩).isSome = true from fun j hj => by rw [Nat.zero_add, hF.cell (by omega)]; rfl)
  have HFF := hide (show ∀ j, j < m → w.frozen? ⟨F, 0 + j, none⟩ = false from fun j hj => by rw [Nat.zero_add]; exact hF.frozen j)
  have kS : ∀ q, ((w.drewN q).setCells F 0 ((List.range m).map fun j => Value.int .u8 (bs.getD (i + j) 0))).cell? ⟨S, 1, none⟩ = some (.int .i64 i) := fun q => by
    rw [World.cell?_setCells_out _ _ _ _ _ (fun e => absurd e hSF)]; exact c1
  have kf : ∀ q, ((w.drewN q).setCells F 0 ((List.range m).map fun j => Value.int .u8 (bs.getD (i + j) 0))).frozen? ⟨S, 1, none⟩ = false := fun q => by
    rw [World.frozen?_setCells]; exact f1
  have h1c : ∀ v ∈ (List.range m).map fun j => Value.int .u8 (bs.getD (i + j) 0), v.oneCell' = true := fun v hv => by
    obtain ⟨_, _, rfl⟩ := List.mem_map.1 hv; rfl
  have H1C := hide h1c
  have hlen : ((List.range m).map fun j => Value.int .u8 (bs.getD (i + j) 0)).length = m := by simp
  have HL := hide hlen
  generalize ((List.range m).map fun j => Value.int .u8 (bs.getD (i + j) 0)) = cs at *
  have hcap : ¬ cap = i := by omega
  clear h1c hlen hS hF hc
  have hge : ¬ (n : Int) ≤ (i : Int) := by omega
  rcases hm with ⟨h3, rfl⟩ | ⟨h3, hm⟩
  · have hw : IntKind.i64.wrap ((i : Int) + 3) = ((i + 3 : Nat) : Int) := by rw [IntKind.wrap_i64]; omega
    have hb0 : 0 ≤ (i : Int) + 3 := by omega
    have hb1 : (i : Int) + 3 ≤ (cap : Int) := by omega
    have hb2 : ((i : Int) + 3).toNat = i + 3 := by omega
    have hb3 : i + 3 - i = 3 := by omega
    go_enter Ybaf.func67, Ybaf.ntmps67
    go_wp2
    go_quiet (fail)
    go_wp2
    go_quiet (fail)
    go_wp2
    go_region_law (refine step_copy_cells rfl _ _ 22 22 rfl 5 Ybaf.underlying22 info5 F 0 4096 4096 ⟨g, i, none⟩ _ _ cs rfl rfl (by rw [HL.out]; rfl) HSRC.out (by rw [HL.out]; exact HFC.out) (by rw [HL.out]; exact HFF.out) H1C.out ?_)
    all_goals go_wp2
    all_goals go_ret2
    all_goals exact ⟨rfl, _, rfl⟩
  · have em : (m : Int) = (n : Int) - (i : Int) := by omega
    rw [em]
    have hw : IntKind.i64.wrap ((i : Int) + ((n : Int) - (i : Int))) = (n : Int) := by rw [IntKind.wrap_i64]; omega
    have hb1 : (n : Int) ≤ (cap : Int) := by omega
    have hb3 : i ≤ n := by omega
    have HMIN := hide (show cs.length = Nat.min (n - i) 4096 from by rw [HL.out, hm]; exact (Nat.min_eq_left (by omega)).symm)
    clear hm em
    go_enter Ybaf.func67, Ybaf.ntmps67
    go_wp2
    go_quiet (fail)
    go_wp2
    go_quiet (fail)
    go_wp2
    go_region_law (refine step_copy_cells rfl _ _ 22 22 rfl 5 Ybaf.underlying22 info5 F 0 4096 4096 ⟨g, i, none⟩ (n - i) _ cs rfl rfl HMIN.out HSRC.out (by rw [HL.out]; exact HFC.out) (by rw [HL.out]; exact HFF.out) H1C.out ?_)
    all_goals go_wp2
    all_goals go_ret2
    all_goals exact ⟨rfl, _, by rw [show (i : Int) + ((n : Int) - (i : Int)) = (n : Int) from by omega]⟩
end Go.Proofs.YbulkbpfuFmt
