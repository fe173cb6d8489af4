import Derived.Test.YbulkbpfuFmtNew
namespace Go.Proofs.YbulkbpfuFmt
open Go.ChangeShapes Go.WideShapes Go.ChangeAt Go.RowKit
set_option linter.unusedVariables false

/-- zzs3296amap: every fourth byte becomes an escape. -/
def mapF (d : Int) : Int := if d % 4 = 0 then 26 else d

theorem amap_any (d : Int) (h0 : 0 ≤ d) (h1 : d ≤ 255) (w : World) : Calls Ybaf.prog 15 #[.int .u8 d] w fun e w' => e = .returned (.int .u8 (mapF d)) ∧ w' = w := by
  unfold mapF
  by_cases hd : d % 4 = 0
  · rw [if_pos hd]
    go_enter Ybaf.func15, Ybaf.ntmps15
    go_wp2
    go_ret
    exact ⟨rfl, rfl⟩
  · rw [if_neg hd]
    go_enter Ybaf.func15, Ybaf.ntmps15
    go_wp2
    go_ret
    exact ⟨rfl, rfl⟩

/-- What frame a Kind byte stands for: its type, the number of its data bytes. -/
def KT (K t : Int) (n : Nat) : Prop := (K % 3 = 0 ∧ t = 49 ∧ n = 2) ∨ (K % 3 = 1 ∧ t = 50 ∧ n = 7) ∨ (K % 3 = 2 ∧ t = 51 ∧ n = 14)
theorem KT.tl {K t : Int} {n : Nat} (h : KT K t n) : TL t n := by
  rcases h with ⟨_, h⟩ | ⟨_, h⟩ | ⟨_, h⟩
  · exact .inl h
  · exact .inr (.inl h)
  · exact .inr (.inr h)
theorem KT.of (K : Int) (h : 0 ≤ K) : ∃ t n, KT K t n := by
  have : K % 3 = 0 ∨ K % 3 = 1 ∨ K % 3 = 2 := by omega
  rcases this with h | h | h
  · exact ⟨49, 2, .inl ⟨h, rfl, rfl⟩⟩
  · exact ⟨50, 7, .inr (.inl ⟨h, rfl, rfl⟩)⟩
  · exact ⟨51, 14, .inr (.inr ⟨h, rfl, rfl⟩)⟩

theorem atype_any (K t : Int) (n : Nat) (h0 : 0 ≤ K) (h1 : K ≤ 255) (h : KT K t n) (w : World) : Calls Ybaf.prog 14 #[.int .u8 K] w fun e w' => e = .returned (.int .u8 t) ∧ w' = w := by
  rcases h with ⟨hk, rfl, rfl⟩ | ⟨hk, rfl, rfl⟩ | ⟨hk, rfl, rfl⟩
  all_goals
    go_enter Ybaf.func14, Ybaf.ntmps14
    go_wp2
    go_ret
    exact ⟨rfl, rfl⟩

/-- Byte k of the counter, the greatest first. -/
def cb (c : Int) (k : Nat) : Int := c / 2 ^ (40 - 8 * k) % 256
/-- Data byte i: the given one mapped, or a filler. -/
def dF (D : List Int) (dl i : Nat) : Int := if i < dl then mapF (D.getD i 0) else ((i : Int) * 37 + 1) % 256
/-- The bytes of a frame, not yet escaped: counter, signal, i data bytes. -/
def rawTo (C G : Int) (D : List Int) (dl i : Nat) : List Int := (List.range 6).map (cb (bits BinOp.and IntKind.u64 C 281474976710655)) ++ [mapF G] ++ (List.range i).map (dF D dl)
theorem rawTo_length (C G : Int) (D : List Int) (dl i : Nat) : (rawTo C G D dl i).length = 7 + i := by simp [rawTo]; omega
theorem rawTo_succ (C G : Int) (D : List Int) (dl i : Nat) : rawTo C G D dl (i + 1) = rawTo C G D dl i ++ [dF D dl i] := by simp [rawTo, List.range_succ]
theorem cb_succ (c : Int) (k : Nat) : (List.range (k + 1)).map (cb c) = (List.range k).map (cb c) ++ [cb c k] := by simp [List.range_succ]
theorem dF_snoc (A : List Int) (D : List Int) (dl k : Nat) : A ++ (List.range (k + 1)).map (dF D dl) = A ++ (List.range k).map (dF D dl) ++ [dF D dl k] := by simp [List.range_succ]
theorem make0 (m : Nat) (hm : m ≤ 100) (w : World) : (Instr.makeSlice 22 (.int .i64 0) (.int .i64 (m : Int))).run Ybaf.prog w = .ok (.slice (some ⟨w.heap.size, 0, none⟩) 0 m) (w.alloc (.cells (madeCells #[.int .u8 0] m) 5)) := by
  obtain ⟨i, hi, hz0, hz1, hz2⟩ := info_parts infoB
  have hr := run_make (P := Ybaf.prog) w 22 5 i _ Ybaf.underlying22 hi hz0 .i64 .i64 0 m (by omega) (by omega) (by rw [hz2]; omega) (by omega)
  rw [hz1] at hr
  simpa [Value.cells] using hr
/-- A row that append within its capacity has made longer, told by its list. -/
theorem row_snoc {w : World} {base g k cap : Nat} {l : List Int} {b : Int} (h : w.ownsRow base 5 1 (.slice (some ⟨g, 0, none⟩) (k + 1) cap) (k + 1) (l.map (Value.int .u8) ++ [.int .u8 b])) : w.ownsRow base 5 1 (.slice (some ⟨g, 0, none⟩) (k + 1) cap) (k + 1) ((l ++ [b]).map (Value.int .u8)) := by simpa using h
theorem one_cell (w : World) (v : Value) (j : Nat) (u : Value) (h : [v][j]? = some u) : (w.alloc (.cells #[v] 5)).cell? ((⟨w.heap.size, 0, none⟩ : Addr).add j) = some u := by
  cases j with
  | zero => simp at h; subst h; simp [Addr.add]
  | succ j => simp at h

set_option maxRecDepth 100000 in
set_option maxHeartbeats 4000000 in
theorem araw_a (K C G : Int) (ao : Option Addr) (db do' dl dc : Nat) (D : List Int) (w : World) (hK0 : 0 ≤ K) (hK1 : K ≤ 255) (hG0 : 0 ≤ G) (hG1 : G ≤ 255) (hKT : K % 3 = 0) (hdl : dl ≤ 9223372036854775807) (hao : 0 < dl → ao = some ⟨db, do', none⟩ ∧ db < w.heap.size)
    (hD : ∀ j, j < dl → w.cell? ⟨db, do' + j, none⟩ = some (.int .u8 (D.getD j 0))) (hDb : ∀ j, 0 ≤ D.getD j 0 ∧ D.getD j 0 ≤ 255) :
    Calls Ybaf.prog 6 #[.agg #[.int .u8 K, .int .u64 C, .int .u8 G, .slice ao dl dc]] w fun e w' => e = .returned (.tuple #[.int .u8 49, .slice (some ⟨w.heap.size + 1, 0, none⟩) 9 9]) ∧ w'.ownsRow w.heap.size 5 1 (.slice (some ⟨w.heap.size + 1, 0, none⟩) 9 9) 9 ((rawTo C G D dl 2).map (Value.int .u8)) ∧ Below w.heap.size w w' := by
  have HT := hide (atype_any K 49 2 hK0 hK1 (.inl ⟨hKT, rfl, rfl⟩))
  have HM := hide (fun d h0 h1 => amap_any d h0 h1)
  have hmk : ∀ w : World, (Instr.makeSlice 22 (.int .i64 0) (.int .i64 9)).run Ybaf.prog w = .ok (.slice (some ⟨w.heap.size, 0, none⟩) 0 9) (w.alloc (.cells (madeCells #[.int .u8 0] 9) 5)) := fun w => make0 9 (by omega) w
  obtain ⟨i0, hi, hz0, hz1, hz2⟩ := info_parts infoB
  have HAO := hide hao
  have HD := hide hD
  have HDB := hide hDb
  clear hao hD hDb hKT
  go_enter Ybaf.func6, Ybaf.ntmps6
  go_wp2_with fail
  refine (HT.out _).mono ?_
  rintro e w1 ⟨rfl, hw1⟩
  subst hw1
  go_wp2
  obtain ⟨c, hc⟩ : ∃ c, bits BinOp.and IntKind.u64 C 281474976710655 = c := ⟨_, rfl⟩
  rw [hc]
  have HC := hide hc
  clear hc
  have O0 := hide ((World.ownsRow_made (base := w.heap.size) (e := 5) (size := 1) (w.alloc (.cells #[.int .u8 K, .int .u64 C, .int .u8 G, .slice ao dl dc] 26)) (madeCells #[.int .u8 0] 9) 9 (by simp) (by decide) (by simp [size_madeCells])))
  rw [Deep.nblk_alloc] at O0
  have I0 := hide ((Is.new w 26 #[.int .u8 K, .int .u64 C, .int .u8 G, .slice ao dl dc]).alloc (.cells (madeCells #[.int .u8 0] 9) 5))
  have B0 := hide (((Below.refl w.heap.size w).alloc (Nat.le_refl _) (.cells #[.int .u8 K, .int .u64 C, .int .u8 G, .slice ao dl dc] 26)).alloc (by simp) (.cells (madeCells #[.int .u8 0] 9) 5))
  go_loopw [7, 8] (fun out s wr => ∃ k : Nat, k ≤ 6 ∧ s = .int .i64 (40 - 8 * (k : Int)) ∧ out = .slice (some ⟨w.heap.size + 1, 0, none⟩) k 9 ∧ wr.ownsRow w.heap.size 5 1 (.slice (some ⟨w.heap.size + 1, 0, none⟩) k 9) k (((List.range k).map (cb c)).map (Value.int .u8)) ∧ Is wr w.heap.size 26 #[.int .u8 K, .int .u64 C, .int .u8 G, .slice ao dl dc] ∧ Below w.heap.size w wr) (fun _ s _ => (intOf s + 8).toNat)
  case atStart => exact ⟨0, by omega, rfl, rfl, O0.out, I0.out, B0.out⟩
  case round =>
    obtain ⟨k, hk6, rfl, rfl, hO, hI, hB⟩ := hrel
    by_cases hlt : k < 6
    · have hs0 : 0 ≤ 40 - 8 * (k : Int) := by omega
      have HI := hide hI
      have HB := hide hB
      clear hI hB O0 I0 B0
      go_wp2_with (at_builtin; refine wpList_append_fits _ rfl _ _ 22 rfl w.heap.size 5 i0 1 Ybaf.underlying22 hi hz1 (w.heap.size + 1) k 9 _ rfl (hO.alloc _) ⟨wr.heap.size, 0, none⟩ 1 1 [.int .u8 (c / 2 ^ (40 - 8 * k) % 256)] rfl rfl (one_cell _ _) (by intro u hu; simp at hu; subst hu; rfl) (by omega) ?_; intro w2 hO2 hG2)
      have HO2 := hide (row_snoc hO2)
      have HB2 := hide ((HB.out.alloc HB.out.size _).grown hG2 (by simp; have := HB.out.size; omega) (fun k hk => by cases hk; exact Nat.le_succ _))
      have HI2 : Hid (Is w2 w.heap.size 26 #[.int .u8 K, .int .u64 C, .int .u8 G, .slice ao dl dc]) := by
        have h := HI.out.alloc (.cells #[.int .u8 (c / 2 ^ (40 - 8 * k) % 256)] 5)
        unfold Is at h
        exact (hG2.block _ (Is.lt h) (by simp)).trans h
      clear hO hO2 hG2
      go_wp2
      go_roundw
      case rel => exact ⟨k + 1, by omega, by go_num, by simp, by rw [cb_succ]; exact HO2.out, HI2.out, HB2.out⟩
      case measure => simp [intOf]; omega
    · obtain rfl : k = 6 := by omega
      have e2 := hI.cell 2
      simp at e2
      have HI := hide hI
      have HB := hide hB
      clear hI hB O0 I0 B0
      go_wp2_with fail
      refine (HM.out G hG0 hG1 _).mono ?_
      rintro e w1 ⟨rfl, hw1⟩
      subst hw1
      go_wp2_with (at_builtin; refine wpList_append_fits _ rfl _ _ 22 rfl w.heap.size 5 i0 1 Ybaf.underlying22 hi hz1 (w.heap.size + 1) 6 9 _ rfl (hO.alloc _) ⟨w1.heap.size, 0, none⟩ 1 1 [.int .u8 (mapF G)] rfl rfl (one_cell _ _) (by intro u hu; simp at hu; subst hu; rfl) (by omega) ?_; intro w2 hO2 hG2)
      have HO2 := hide (row_snoc hO2)
      have HB2 := hide ((HB.out.alloc HB.out.size _).grown hG2 (by simp; have := HB.out.size; omega) (fun k hk => by cases hk; exact Nat.le_succ _))
      have HI2 : Hid (Is w2 w.heap.size 26 #[.int .u8 K, .int .u64 C, .int .u8 G, .slice ao dl dc]) := by
        have h := HI.out.alloc (.cells #[.int .u8 (mapF G)] 5)
        unfold Is at h
        exact (hG2.block _ (Is.lt h) (by simp)).trans h
      clear hO hO2 hG2 e2 HI HB
      go_wp2
      go_loopw [7, 9] (fun out s wr => ∃ k : Nat, k ≤ 2 ∧ s = .int .i64 k ∧ out = .slice (some ⟨w.heap.size + 1, 0, none⟩) (7 + k) 9 ∧ wr.ownsRow w.heap.size 5 1 (.slice (some ⟨w.heap.size + 1, 0, none⟩) (7 + k) 9) (7 + k) (((List.range 6).map (cb c) ++ [mapF G] ++ (List.range k).map (dF D dl)).map (Value.int .u8)) ∧ Is wr w.heap.size 26 #[.int .u8 K, .int .u64 C, .int .u8 G, .slice ao dl dc] ∧ Below w.heap.size w wr) (fun _ s _ => 2 - (intOf s).toNat)
      case atStart => exact ⟨0, by omega, rfl, rfl, by simpa using HO2.out, HI2.out, HB2.out⟩
      case round =>
        obtain ⟨k, hk6, rfl, rfl, hO, hI, hB⟩ := hrel
        by_cases hlt : k < 2
        · have e3 := hI.cell 3
          simp at e3
          have HI := hide hI
          have HB := hide hB
          clear hI hB
          by_cases hd : k < dl
          · obtain ⟨rfl, hdb⟩ := HAO.out (by omega)
            obtain ⟨d, hdd, hd0, hd1, hcd⟩ : ∃ d, D.getD k 0 = d ∧ 0 ≤ d ∧ d ≤ 255 ∧ wr.cell? ⟨db, do' + k, none⟩ = some (.int .u8 d) := ⟨_, rfl, (HDB.out k).1, (HDB.out k).2, (HB.out.cell (by exact hdb)).trans (HD.out k hd)⟩
            have HDF := hide (show mapF d = dF D dl k by simp only [dF, if_pos hd, hdd])
            clear hdd
            go_wp2_with fail
            refine (HM.out d hd0 hd1 _).mono ?_
            rintro e w1 ⟨rfl, hw1⟩
            subst hw1
            go_wp2_with (at_builtin; refine wpList_append_fits _ rfl _ _ 22 rfl w.heap.size 5 i0 1 Ybaf.underlying22 hi hz1 (w.heap.size + 1) (7 + k) 9 _ rfl (hO.alloc _) ⟨w1.heap.size, 0, none⟩ 1 1 [.int .u8 (mapF d)] rfl rfl (one_cell _ _) (by intro u hu; simp at hu; subst hu; rfl) (by omega) ?_; intro w2 hO2 hG2)
            have HO2 := hide (row_snoc hO2)
            rw [HDF.out] at HO2
            have HB2 := hide ((HB.out.alloc HB.out.size _).grown hG2 (by simp; have := HB.out.size; omega) (fun k hk => by cases hk; exact Nat.le_succ _))
            have HI2 : Hid (Is w2 w.heap.size 26 #[.int .u8 K, .int .u64 C, .int .u8 G, .slice (some ⟨db, do', none⟩) dl dc]) := by
              have h := HI.out.alloc (.cells #[.int .u8 (mapF d)] 5)
              unfold Is at h
              exact (hG2.block _ (Is.lt h) (by simp)).trans h
            clear hO hO2 hG2 hcd e3
            go_wp2
            go_roundw
            case rel => exact ⟨k + 1, by omega, by go_num, by simp [Nat.add_assoc], by rw [dF_snoc]; exact HO2.out, HI2.out, HB2.out⟩
            case measure => simp [intOf]; omega
          · have HDF := hide (show (k : Int) * 37 + 1 = dF D dl k by simp only [dF, if_neg hd]; omega)
            go_wp2_with (at_builtin; refine wpList_append_fits _ rfl _ _ 22 rfl w.heap.size 5 i0 1 Ybaf.underlying22 hi hz1 (w.heap.size + 1) (7 + k) 9 _ rfl (hO.alloc _) ⟨wr.heap.size, 0, none⟩ 1 1 [.int .u8 ((k : Int) * 37 + 1)] rfl rfl (one_cell _ _) (by intro u hu; simp at hu; subst hu; rfl) (by omega) ?_; intro w2 hO2 hG2)
            have HO2 := hide (row_snoc hO2)
            rw [HDF.out] at HO2
            have HB2 := hide ((HB.out.alloc HB.out.size _).grown hG2 (by simp; have := HB.out.size; omega) (fun k hk => by cases hk; exact Nat.le_succ _))
            have HI2 : Hid (Is w2 w.heap.size 26 #[.int .u8 K, .int .u64 C, .int .u8 G, .slice ao dl dc]) := by
              have h := HI.out.alloc (.cells #[.int .u8 ((k : Int) * 37 + 1)] 5)
              unfold Is at h
              exact (hG2.block _ (Is.lt h) (by simp)).trans h
            clear hO hO2 hG2 e3
            go_wp2
            go_roundw
            case rel => exact ⟨k + 1, by omega, by go_num, by simp [Nat.add_assoc], by rw [dF_snoc]; exact HO2.out, HI2.out, HB2.out⟩
            case measure => simp [intOf]; omega
        · obtain rfl : k = 2 := by omega
          go_wp2
          go_ret2
          exact ⟨rfl, by unfold rawTo; rw [HC.out]; exact hO, hB⟩

set_option maxRecDepth 100000 in
set_option maxHeartbeats 4000000 in
theorem araw_b (K C G : Int) (ao : Option Addr) (db do' dl dc : Nat) (D : List Int) (w : World) (hK0 : 0 ≤ K) (hK1 : K ≤ 255) (hG0 : 0 ≤ G) (hG1 : G ≤ 255) (hKT : K % 3 = 1) (hdl : dl ≤ 9223372036854775807) (hao : 0 < dl → ao = some ⟨db, do', none⟩ ∧ db < w.heap.size)
    (hD : ∀ j, j < dl → w.cell? ⟨db, do' + j, none⟩ = some (.int .u8 (D.getD j 0))) (hDb : ∀ j, 0 ≤ D.getD j 0 ∧ D.getD j 0 ≤ 255) :
    Calls Ybaf.prog 6 #[.agg #[.int .u8 K, .int .u64 C, .int .u8 G, .slice ao dl dc]] w fun e w' => e = .returned (.tuple #[.int .u8 50, .slice (some ⟨w.heap.size + 1, 0, none⟩) 14 14]) ∧ w'.ownsRow w.heap.size 5 1 (.slice (some ⟨w.heap.size + 1, 0, none⟩) 14 14) 14 ((rawTo C G D dl 7).map (Value.int .u8)) ∧ Below w.heap.size w w' := by
  have HT := hide (atype_any K 50 7 hK0 hK1 (.inr (.inl ⟨hKT, rfl, rfl⟩)))
  have HM := hide (fun d h0 h1 => amap_any d h0 h1)
  have hmk : ∀ w : World, (Instr.makeSlice 22 (.int .i64 0) (.int .i64 14)).run Ybaf.prog w = .ok (.slice (some ⟨w.heap.size, 0, none⟩) 0 14) (w.alloc (.cells (madeCells #[.int .u8 0] 14) 5)) := fun w => make0 14 (by omega) w
  obtain ⟨i0, hi, hz0, hz1, hz2⟩ := info_parts infoB
  have HAO := hide hao
  have HD := hide hD
  have HDB := hide hDb
  clear hao hD hDb hKT
  go_enter Ybaf.func6, Ybaf.ntmps6
  go_wp2_with fail
  refine (HT.out _).mono ?_
  rintro e w1 ⟨rfl, hw1⟩
  subst hw1
  go_wp2
  obtain ⟨c, hc⟩ : ∃ c, bits BinOp.and IntKind.u64 C 281474976710655 = c := ⟨_, rfl⟩
  rw [hc]
  have HC := hide hc
  clear hc
  have O0 := hide ((World.ownsRow_made (base := w.heap.size) (e := 5) (size := 1) (w.alloc (.cells #[.int .u8 K, .int .u64 C, .int .u8 G, .slice ao dl dc] 26)) (madeCells #[.int .u8 0] 14) 14 (by simp) (by decide) (by simp [size_madeCells])))
  rw [Deep.nblk_alloc] at O0
  have I0 := hide ((Is.new w 26 #[.int .u8 K, .int .u64 C, .int .u8 G, .slice ao dl dc]).alloc (.cells (madeCells #[.int .u8 0] 14) 5))
  have B0 := hide (((Below.refl w.heap.size w).alloc (Nat.le_refl _) (.cells #[.int .u8 K, .int .u64 C, .int .u8 G, .slice ao dl dc] 26)).alloc (by simp) (.cells (madeCells #[.int .u8 0] 14) 5))
  go_loopw [7, 8] (fun out s wr => ∃ k : Nat, k ≤ 6 ∧ s = .int .i64 (40 - 8 * (k : Int)) ∧ out = .slice (some ⟨w.heap.size + 1, 0, none⟩) k 14 ∧ wr.ownsRow w.heap.size 5 1 (.slice (some ⟨w.heap.size + 1, 0, none⟩) k 14) k (((List.range k).map (cb c)).map (Value.int .u8)) ∧ Is wr w.heap.size 26 #[.int .u8 K, .int .u64 C, .int .u8 G, .slice ao dl dc] ∧ Below w.heap.size w wr) (fun _ s _ => (intOf s + 8).toNat)
  case atStart => exact ⟨0, by omega, rfl, rfl, O0.out, I0.out, B0.out⟩
  case round =>
    obtain ⟨k, hk6, rfl, rfl, hO, hI, hB⟩ := hrel
    by_cases hlt : k < 6
    · have hs0 : 0 ≤ 40 - 8 * (k : Int) := by omega
      have HI := hide hI
      have HB := hide hB
      clear hI hB O0 I0 B0
      go_wp2_with (at_builtin; refine wpList_append_fits _ rfl _ _ 22 rfl w.heap.size 5 i0 1 Ybaf.underlying22 hi hz1 (w.heap.size + 1) k 14 _ rfl (hO.alloc _) ⟨wr.heap.size, 0, none⟩ 1 1 [.int .u8 (c / 2 ^ (40 - 8 * k) % 256)] rfl rfl (one_cell _ _) (by intro u hu; simp at hu; subst hu; rfl) (by omega) ?_; intro w2 hO2 hG2)
      have HO2 := hide (row_snoc hO2)
      have HB2 := hide ((HB.out.alloc HB.out.size _).grown hG2 (by simp; have := HB.out.size; omega) (fun k hk => by cases hk; exact Nat.le_succ _))
      have HI2 : Hid (Is w2 w.heap.size 26 #[.int .u8 K, .int .u64 C, .int .u8 G, .slice ao dl dc]) := by
        have h := HI.out.alloc (.cells #[.int .u8 (c / 2 ^ (40 - 8 * k) % 256)] 5)
        unfold Is at h
        exact (hG2.block _ (Is.lt h) (by simp)).trans h
      clear hO hO2 hG2
      go_wp2
      go_roundw
      case rel => exact ⟨k + 1, by omega, by go_num, by simp, by rw [cb_succ]; exact HO2.out, HI2.out, HB2.out⟩
      case measure => simp [intOf]; omega
    · obtain rfl : k = 6 := by omega
      have e2 := hI.cell 2
      simp at e2
      have HI := hide hI
      have HB := hide hB
      clear hI hB O0 I0 B0
      go_wp2_with fail
      refine (HM.out G hG0 hG1 _).mono ?_
      rintro e w1 ⟨rfl, hw1⟩
      subst hw1
      go_wp2_with (at_builtin; refine wpList_append_fits _ rfl _ _ 22 rfl w.heap.size 5 i0 1 Ybaf.underlying22 hi hz1 (w.heap.size + 1) 6 14 _ rfl (hO.alloc _) ⟨w1.heap.size, 0, none⟩ 1 1 [.int .u8 (mapF G)] rfl rfl (one_cell _ _) (by intro u hu; simp at hu; subst hu; rfl) (by omega) ?_; intro w2 hO2 hG2)
      have HO2 := hide (row_snoc hO2)
      have HB2 := hide ((HB.out.alloc HB.out.size _).grown hG2 (by simp; have := HB.out.size; omega) (fun k hk => by cases hk; exact Nat.le_succ _))
      have HI2 : Hid (Is w2 w.heap.size 26 #[.int .u8 K, .int .u64 C, .int .u8 G, .slice ao dl dc]) := by
        have h := HI.out.alloc (.cells #[.int .u8 (mapF G)] 5)
        unfold Is at h
        exact (hG2.block _ (Is.lt h) (by simp)).trans h
      clear hO hO2 hG2 e2 HI HB
      go_wp2
      go_loopw [7, 9] (fun out s wr => ∃ k : Nat, k ≤ 7 ∧ s = .int .i64 k ∧ out = .slice (some ⟨w.heap.size + 1, 0, none⟩) (7 + k) 14 ∧ wr.ownsRow w.heap.size 5 1 (.slice (some ⟨w.heap.size + 1, 0, none⟩) (7 + k) 14) (7 + k) (((List.range 6).map (cb c) ++ [mapF G] ++ (List.range k).map (dF D dl)).map (Value.int .u8)) ∧ Is wr w.heap.size 26 #[.int .u8 K, .int .u64 C, .int .u8 G, .slice ao dl dc] ∧ Below w.heap.size w wr) (fun _ s _ => 7 - (intOf s).toNat)
      case atStart => exact ⟨0, by omega, rfl, rfl, by simpa using HO2.out, HI2.out, HB2.out⟩
      case round =>
        obtain ⟨k, hk6, rfl, rfl, hO, hI, hB⟩ := hrel
        by_cases hlt : k < 7
        · have e3 := hI.cell 3
          simp at e3
          have HI := hide hI
          have HB := hide hB
          clear hI hB
          by_cases hd : k < dl
          · obtain ⟨rfl, hdb⟩ := HAO.out (by omega)
            obtain ⟨d, hdd, hd0, hd1, hcd⟩ : ∃ d, D.getD k 0 = d ∧ 0 ≤ d ∧ d ≤ 255 ∧ wr.cell? ⟨db, do' + k, none⟩ = some (.int .u8 d) := ⟨_, rfl, (HDB.out k).1, (HDB.out k).2, (HB.out.cell (by exact hdb)).trans (HD.out k hd)⟩
            have HDF := hide (show mapF d = dF D dl k by simp only [dF, if_pos hd, hdd])
            clear hdd
            go_wp2_with fail
            refine (HM.out d hd0 hd1 _).mono ?_
            rintro e w1 ⟨rfl, hw1⟩
            subst hw1
            go_wp2_with (at_builtin; refine wpList_append_fits _ rfl _ _ 22 rfl w.heap.size 5 i0 1 Ybaf.underlying22 hi hz1 (w.heap.size + 1) (7 + k) 14 _ rfl (hO.alloc _) ⟨w1.heap.size, 0, none⟩ 1 1 [.int .u8 (mapF d)] rfl rfl (one_cell _ _) (by intro u hu; simp at hu; subst hu; rfl) (by omega) ?_; intro w2 hO2 hG2)
            have HO2 := hide (row_snoc hO2)
            rw [HDF.out] at HO2
            have HB2 := hide ((HB.out.alloc HB.out.size _).grown hG2 (by simp; have := HB.out.size; omega) (fun k hk => by cases hk; exact Nat.le_succ _))
            have HI2 : Hid (Is w2 w.heap.size 26 #[.int .u8 K, .int .u64 C, .int .u8 G, .slice (some ⟨db, do', none⟩) dl dc]) := by
              have h := HI.out.alloc (.cells #[.int .u8 (mapF d)] 5)
              unfold Is at h
              exact (hG2.block _ (Is.lt h) (by simp)).trans h
            clear hO hO2 hG2 hcd e3
            go_wp2
            go_roundw
            case rel => exact ⟨k + 1, by omega, by go_num, by simp [Nat.add_assoc], by rw [dF_snoc]; exact HO2.out, HI2.out, HB2.out⟩
            case measure => simp [intOf]; omega
          · have HDF := hide (show (k : Int) * 37 + 1 = dF D dl k by simp only [dF, if_neg hd]; omega)
            go_wp2_with (at_builtin; refine wpList_append_fits _ rfl _ _ 22 rfl w.heap.size 5 i0 1 Ybaf.underlying22 hi hz1 (w.heap.size + 1) (7 + k) 14 _ rfl (hO.alloc _) ⟨wr.heap.size, 0, none⟩ 1 1 [.int .u8 ((k : Int) * 37 + 1)] rfl rfl (one_cell _ _) (by intro u hu; simp at hu; subst hu; rfl) (by omega) ?_; intro w2 hO2 hG2)
            have HO2 := hide (row_snoc hO2)
            rw [HDF.out] at HO2
            have HB2 := hide ((HB.out.alloc HB.out.size _).grown hG2 (by simp; have := HB.out.size; omega) (fun k hk => by cases hk; exact Nat.le_succ _))
            have HI2 : Hid (Is w2 w.heap.size 26 #[.int .u8 K, .int .u64 C, .int .u8 G, .slice ao dl dc]) := by
              have h := HI.out.alloc (.cells #[.int .u8 ((k : Int) * 37 + 1)] 5)
              unfold Is at h
              exact (hG2.block _ (Is.lt h) (by simp)).trans h
            clear hO hO2 hG2 e3
            go_wp2
            go_roundw
            case rel => exact ⟨k + 1, by omega, by go_num, by simp [Nat.add_assoc], by rw [dF_snoc]; exact HO2.out, HI2.out, HB2.out⟩
            case measure => simp [intOf]; omega
        · obtain rfl : k = 7 := by omega
          go_wp2
          go_ret2
          exact ⟨rfl, by unfold rawTo; rw [HC.out]; exact hO, hB⟩

set_option maxRecDepth 100000 in
set_option maxHeartbeats 4000000 in
theorem araw_c (K C G : Int) (ao : Option Addr) (db do' dl dc : Nat) (D : List Int) (w : World) (hK0 : 0 ≤ K) (hK1 : K ≤ 255) (hG0 : 0 ≤ G) (hG1 : G ≤ 255) (hKT : K % 3 = 2) (hdl : dl ≤ 9223372036854775807) (hao : 0 < dl → ao = some ⟨db, do', none⟩ ∧ db < w.heap.size)
    (hD : ∀ j, j < dl → w.cell? ⟨db, do' + j, none⟩ = some (.int .u8 (D.getD j 0))) (hDb : ∀ j, 0 ≤ D.getD j 0 ∧ D.getD j 0 ≤ 255) :
    Calls Ybaf.prog 6 #[.agg #[.int .u8 K, .int .u64 C, .int .u8 G, .slice ao dl dc]] w fun e w' => e = .returned (.tuple #[.int .u8 51, .slice (some ⟨w.heap.size + 1, 0, none⟩) 21 21]) ∧ w'.ownsRow w.heap.size 5 1 (.slice (some ⟨w.heap.size + 1, 0, none⟩) 21 21) 21 ((rawTo C G D dl 14).map (Value.int .u8)) ∧ Below w.heap.size w w' := by
  have HT := hide (atype_any K 51 14 hK0 hK1 (.inr (.inr ⟨hKT, rfl, rfl⟩)))
  have HM := hide (fun d h0 h1 => amap_any d h0 h1)
  have hmk : ∀ w : World, (Instr.makeSlice 22 (.int .i64 0) (.int .i64 21)).run Ybaf.prog w = .ok (.slice (some ⟨w.heap.size, 0, none⟩) 0 21) (w.alloc (.cells (madeCells #[.int .u8 0] 21) 5)) := fun w => make0 21 (by omega) w
  obtain ⟨i0, hi, hz0, hz1, hz2⟩ := info_parts infoB
  have HAO := hide hao
  have HD := hide hD
  have HDB := hide hDb
  clear hao hD hDb hKT
  go_enter Ybaf.func6, Ybaf.ntmps6
  go_wp2_with fail
  refine (HT.out _).mono ?_
  rintro e w1 ⟨rfl, hw1⟩
  subst hw1
  go_wp2
  obtain ⟨c, hc⟩ : ∃ c, bits BinOp.and IntKind.u64 C 281474976710655 = c := ⟨_, rfl⟩
  rw [hc]
  have HC := hide hc
  clear hc
  have O0 := hide ((World.ownsRow_made (base := w.heap.size) (e := 5) (size := 1) (w.alloc (.cells #[.int .u8 K, .int .u64 C, .int .u8 G, .slice ao dl dc] 26)) (madeCells #[.int .u8 0] 21) 21 (by simp) (by decide) (by simp [size_madeCells])))
  rw [Deep.nblk_alloc] at O0
  have I0 := hide ((Is.new w 26 #[.int .u8 K, .int .u64 C, .int .u8 G, .slice ao dl dc]).alloc (.cells (madeCells #[.int .u8 0] 21) 5))
  have B0 := hide (((Below.refl w.heap.size w).alloc (Nat.le_refl _) (.cells #[.int .u8 K, .int .u64 C, .int .u8 G, .slice ao dl dc] 26)).alloc (by simp) (.cells (madeCells #[.int .u8 0] 21) 5))
  go_loopw [7, 8] (fun out s wr => ∃ k : Nat, k ≤ 6 ∧ s = .int .i64 (40 - 8 * (k : Int)) ∧ out = .slice (some ⟨w.heap.size + 1, 0, none⟩) k 21 ∧ wr.ownsRow w.heap.size 5 1 (.slice (some ⟨w.heap.size + 1, 0, none⟩) k 21) k (((List.range k).map (cb c)).map (Value.int .u8)) ∧ Is wr w.heap.size 26 #[.int .u8 K, .int .u64 C, .int .u8 G, .slice ao dl dc] ∧ Below w.heap.size w wr) (fun _ s _ => (intOf s + 8).toNat)
  case atStart => exact ⟨0, by omega, rfl, rfl, O0.out, I0.out, B0.out⟩
  case round =>
    obtain ⟨k, hk6, rfl, rfl, hO, hI, hB⟩ := hrel
    by_cases hlt : k < 6
    · have hs0 : 0 ≤ 40 - 8 * (k : Int) := by omega
      have HI := hide hI
      have HB := hide hB
      clear hI hB O0 I0 B0
      go_wp2_with (at_builtin; refine wpList_append_fits _ rfl _ _ 22 rfl w.heap.size 5 i0 1 Ybaf.underlying22 hi hz1 (w.heap.size + 1) k 21 _ rfl (hO.alloc _) ⟨wr.heap.size, 0, none⟩ 1 1 [.int .u8 (c / 2 ^ (40 - 8 * k) % 256)] rfl rfl (one_cell _ _) (by intro u hu; simp at hu; subst hu; rfl) (by omega) ?_; intro w2 hO2 hG2)
      have HO2 := hide (row_snoc hO2)
      have HB2 := hide ((HB.out.alloc HB.out.size _).grown hG2 (by simp; have := HB.out.size; omega) (fun k hk => by cases hk; exact Nat.le_succ _))
      have HI2 : Hid (Is w2 w.heap.size 26 #[.int .u8 K, .int .u64 C, .int .u8 G, .slice ao dl dc]) := by
        have h := HI.out.alloc (.cells #[.int .u8 (c / 2 ^ (40 - 8 * k) % 256)] 5)
        unfold Is at h
        exact (hG2.block _ (Is.lt h) (by simp)).trans h
      clear hO hO2 hG2
      go_wp2
      go_roundw
      case rel => exact ⟨k + 1, by omega, by go_num, by simp, by rw [cb_succ]; exact HO2.out, HI2.out, HB2.out⟩
      case measure => simp [intOf]; omega
    · obtain rfl : k = 6 := by omega
      have e2 := hI.cell 2
      simp at e2
      have HI := hide hI
      have HB := hide hB
      clear hI hB O0 I0 B0
      go_wp2_with fail
      refine (HM.out G hG0 hG1 _).mono ?_
      rintro e w1 ⟨rfl, hw1⟩
      subst hw1
      go_wp2_with (at_builtin; refine wpList_append_fits _ rfl _ _ 22 rfl w.heap.size 5 i0 1 Ybaf.underlying22 hi hz1 (w.heap.size + 1) 6 21 _ rfl (hO.alloc _) ⟨w1.heap.size, 0, none⟩ 1 1 [.int .u8 (mapF G)] rfl rfl (one_cell _ _) (by intro u hu; simp at hu; subst hu; rfl) (by omega) ?_; intro w2 hO2 hG2)
      have HO2 := hide (row_snoc hO2)
      have HB2 := hide ((HB.out.alloc HB.out.size _).grown hG2 (by simp; have := HB.out.size; omega) (fun k hk => by cases hk; exact Nat.le_succ _))
      have HI2 : Hid (Is w2 w.heap.size 26 #[.int .u8 K, .int .u64 C, .int .u8 G, .slice ao dl dc]) := by
        have h := HI.out.alloc (.cells #[.int .u8 (mapF G)] 5)
        unfold Is at h
        exact (hG2.block _ (Is.lt h) (by simp)).trans h
      clear hO hO2 hG2 e2 HI HB
      go_wp2
      go_loopw [7, 9] (fun out s wr => ∃ k : Nat, k ≤ 14 ∧ s = .int .i64 k ∧ out = .slice (some ⟨w.heap.size + 1, 0, none⟩) (7 + k) 21 ∧ wr.ownsRow w.heap.size 5 1 (.slice (some ⟨w.heap.size + 1, 0, none⟩) (7 + k) 21) (7 + k) (((List.range 6).map (cb c) ++ [mapF G] ++ (List.range k).map (dF D dl)).map (Value.int .u8)) ∧ Is wr w.heap.size 26 #[.int .u8 K, .int .u64 C, .int .u8 G, .slice ao dl dc] ∧ Below w.heap.size w wr) (fun _ s _ => 14 - (intOf s).toNat)
      case atStart => exact ⟨0, by omega, rfl, rfl, by simpa using HO2.out, HI2.out, HB2.out⟩
      case round =>
        obtain ⟨k, hk6, rfl, rfl, hO, hI, hB⟩ := hrel
        by_cases hlt : k < 14
        · have e3 := hI.cell 3
          simp at e3
          have HI := hide hI
          have HB := hide hB
          clear hI hB
          by_cases hd : k < dl
          · obtain ⟨rfl, hdb⟩ := HAO.out (by omega)
            obtain ⟨d, hdd, hd0, hd1, hcd⟩ : ∃ d, D.getD k 0 = d ∧ 0 ≤ d ∧ d ≤ 255 ∧ wr.cell? ⟨db, do' + k, none⟩ = some (.int .u8 d) := ⟨_, rfl, (HDB.out k).1, (HDB.out k).2, (HB.out.cell (by exact hdb)).trans (HD.out k hd)⟩
            have HDF := hide (show mapF d = dF D dl k by simp only [dF, if_pos hd, hdd])
            clear hdd
            go_wp2_with fail
            refine (HM.out d hd0 hd1 _).mono ?_
            rintro e w1 ⟨rfl, hw1⟩
            subst hw1
            go_wp2_with (at_builtin; refine wpList_append_fits _ rfl _ _ 22 rfl w.heap.size 5 i0 1 Ybaf.underlying22 hi hz1 (w.heap.size + 1) (7 + k) 21 _ rfl (hO.alloc _) ⟨w1.heap.size, 0, none⟩ 1 1 [.int .u8 (mapF d)] rfl rfl (one_cell _ _) (by intro u hu; simp at hu; subst hu; rfl) (by omega) ?_; intro w2 hO2 hG2)
            have HO2 := hide (row_snoc hO2)
            rw [HDF.out] at HO2
            have HB2 := hide ((HB.out.alloc HB.out.size _).grown hG2 (by simp; have := HB.out.size; omega) (fun k hk => by cases hk; exact Nat.le_succ _))
            have HI2 : Hid (Is w2 w.heap.size 26 #[.int .u8 K, .int .u64 C, .int .u8 G, .slice (some ⟨db, do', none⟩) dl dc]) := by
              have h := HI.out.alloc (.cells #[.int .u8 (mapF d)] 5)
              unfold Is at h
              exact (hG2.block _ (Is.lt h) (by simp)).trans h
            clear hO hO2 hG2 hcd e3
            go_wp2
            go_roundw
            case rel => exact ⟨k + 1, by omega, by go_num, by simp [Nat.add_assoc], by rw [dF_snoc]; exact HO2.out, HI2.out, HB2.out⟩
            case measure => simp [intOf]; omega
          · have HDF := hide (show ((k : Int) * 37 + 1) % 256 = dF D dl k by simp only [dF, if_neg hd])
            go_wp2_with (at_builtin; refine wpList_append_fits _ rfl _ _ 22 rfl w.heap.size 5 i0 1 Ybaf.underlying22 hi hz1 (w.heap.size + 1) (7 + k) 21 _ rfl (hO.alloc _) ⟨wr.heap.size, 0, none⟩ 1 1 [.int .u8 (((k : Int) * 37 + 1) % 256)] rfl rfl (one_cell _ _) (by intro u hu; simp at hu; subst hu; rfl) (by omega) ?_; intro w2 hO2 hG2)
            have HO2 := hide (row_snoc hO2)
            rw [HDF.out] at HO2
            have HB2 := hide ((HB.out.alloc HB.out.size _).grown hG2 (by simp; have := HB.out.size; omega) (fun k hk => by cases hk; exact Nat.le_succ _))
            have HI2 : Hid (Is w2 w.heap.size 26 #[.int .u8 K, .int .u64 C, .int .u8 G, .slice ao dl dc]) := by
              have h := HI.out.alloc (.cells #[.int .u8 (((k : Int) * 37 + 1) % 256)] 5)
              unfold Is at h
              exact (hG2.block _ (Is.lt h) (by simp)).trans h
            clear hO hO2 hG2 e3
            go_wp2
            go_roundw
            case rel => exact ⟨k + 1, by omega, by go_num, by simp [Nat.add_assoc], by rw [dF_snoc]; exact HO2.out, HI2.out, HB2.out⟩
            case measure => simp [intOf]; omega
        · obtain rfl : k = 14 := by omega
          go_wp2
          go_ret2
          exact ⟨rfl, by unfold rawTo; rw [HC.out]; exact hO, hB⟩

/-- zzs3296araw, whatever the frame. -/
theorem araw_any (K C G t : Int) (n : Nat) (ao : Option Addr) (db do' dl dc : Nat) (D : List Int) (w : World) (hK0 : 0 ≤ K) (hK1 : K ≤ 255) (hG0 : 0 ≤ G) (hG1 : G ≤ 255) (hKT : KT K t n) (hdl : dl ≤ 9223372036854775807) (hao : 0 < dl → ao = some ⟨db, do', none⟩ ∧ db < w.heap.size)
    (hD : ∀ j, j < dl → w.cell? ⟨db, do' + j, none⟩ = some (.int .u8 (D.getD j 0))) (hDb : ∀ j, 0 ≤ D.getD j 0 ∧ D.getD j 0 ≤ 255) :
    Calls Ybaf.prog 6 #[.agg #[.int .u8 K, .int .u64 C, .int .u8 G, .slice ao dl dc]] w fun e w' => e = .returned (.tuple #[.int .u8 t, .slice (some ⟨w.heap.size + 1, 0, none⟩) (7 + n) (7 + n)]) ∧ w'.ownsRow w.heap.size 5 1 (.slice (some ⟨w.heap.size + 1, 0, none⟩) (7 + n) (7 + n)) (7 + n) ((rawTo C G D dl n).map (Value.int .u8)) ∧ Below w.heap.size w w' := by
  rcases hKT with ⟨hk, rfl, rfl⟩ | ⟨hk, rfl, rfl⟩ | ⟨hk, rfl, rfl⟩
  · exact araw_a K C G ao db do' dl dc D w hK0 hK1 hG0 hG1 hk hdl hao hD hDb
  · exact araw_b K C G ao db do' dl dc D w hK0 hK1 hG0 hG1 hk hdl hao hD hDb
  · exact araw_c K C G ao db do' dl dc D w hK0 hK1 hG0 hG1 hk hdl hao hD hDb
end Go.Proofs.YbulkbpfuFmt
