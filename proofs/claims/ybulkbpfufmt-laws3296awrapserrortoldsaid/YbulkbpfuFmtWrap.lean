import Derived.Test.YbulkbpfuFmtErr
namespace Go.Proofs.YbulkbpfuFmt
open Go.ChangeShapes Go.WideShapes Go.ChangeAt Go.RowKit Go.Extern.Stop Go.Stop Go.Extern
set_option linter.unusedVariables false

theorem errorsNew (s : ByteArray) (w : World) : Calls Ybaf.prog 11 #[.string s] w fun e w' => e = .returned (.iface 88 (.pointer (some ⟨w.heap.size, 0, none⟩))) ∧ w' = w.alloc (.cells #[.string s] 90) := by
  go_enter Ybaf.func11, Ybaf.ntmps11
  go_wp2
  go_ret
  exact ⟨rfl, rfl⟩

theorem eql_nil_slice (w : World) : (binOp .eql 22 (.slice none 0 0) (.slice none 0 0)).run Ybaf.prog w = .ok (.bool true) w := by kernel_rfl

set_option maxRecDepth 100000 in
theorem wrap_long (fa : Option Addr) (fl fc : Nat) (w : World) (h : 300 < fl) :
    Calls Ybaf.prog 4 #[.slice fa fl fc] w fun e w' => e = .returned (.bool true) ∧ Below w.heap.size w w' := by
  go_enter Ybaf.func4, Ybaf.ntmps4
  go_wp2
  go_ret
  exact ⟨rfl, Below.refl _ _⟩

set_option maxRecDepth 100000 in
set_option maxHeartbeats 8000000 in
theorem wrap_walk (Fi : Interp) (fa : Option Addr) (fb fo fl fc : Nat) (fr : Nat → Fr) (ea : Addr) (cb : Array Value) (tb : TypeId) (w : World) (hfl : fl ≤ 300) (hF0 : Fi.answers w.tape)
    (hfa : 0 < fl → fa = some ⟨fb, fo, none⟩ ∧ fb < w.heap.size) (hF : ∀ i, i < fl → FrOk w (fr i) ∧ w.cell? ⟨fb, fo + i * 4, none⟩ = some (.int .u8 (fr i).K) ∧ w.cell? ⟨fb, fo + i * 4 + 1, none⟩ = some (.int .u64 (fr i).C) ∧ w.cell? ⟨fb, fo + i * 4 + 2, none⟩ = some (.int .u8 (fr i).G) ∧ w.cell? ⟨fb, fo + i * 4 + 3, none⟩ = some (.slice (fr i).ao (fr i).dl (fr i).dc))
    (hE : w.cell? ⟨0, 0, none⟩ = some (.iface 88 (.pointer (some ea)))) (hEb : w.heap[ea.block]? = some (.cells cb tb (0, 0))) :
    Calls Ybaf.prog 4 #[.slice fa fl fc] w fun e w' => e = .returned (.bool true) ∧ Below w.heap.size w w' := by
  have hd1 : decide ((300 : Int) < (fl : Int)) = false := by simp; omega
  have h0 : 0 < w.heap.size := World.block_lt_of_cell? w _ hE
  have HFA := hide hfa
  have HF := hide hF
  have HE := hide hE
  have HEB := hide hEb
  have HFI := hide hF0
  have heal : ea.block < w.heap.size := (Array.getElem?_eq_some_iff.1 hEb).1
  clear hfa hF hE hEb hF0
  go_enter Ybaf.func4, Ybaf.ntmps4
  go_wp2
  go_loopw [3, 5, 6, 7, 23] (fun out s5 s6 s7 i wr => ∃ (k : Nat) (l' : List Int), k ≤ fl ∧ i = .int .i64 k ∧ l' = encs fr k ∧ Out wr w.heap.size 0 out l' ∧ Kp (fun _ => False) w wr) (fun _ _ _ _ i _ => fl - (intOf i).toNat)
  case atStart => exact ⟨0, [], by omega, rfl, by simp [encs], ⟨World.ownsRow_nil _ _ _ _, by simp [Value.ownBlock]⟩, Kp.refl _ _⟩
  case round =>
    obtain ⟨k, l', hk, rfl, hl', hO, hK⟩ := hrel
    have hBr : Below w.heap.size w wr := hK.below (Nat.le_refl _) (fun _ h => h.elim)
    have hll : l'.length ≤ 44 * 300 := by
      have h1 := encs_len fr k
      rw [hl']; omega
    by_cases hlt : k < fl
    · obtain ⟨rfl, hfb⟩ := HFA.out (by omega)
      obtain ⟨hfo, c0, c1, c2, c3⟩ := HF.out k hlt
      have d0 := (hBr.cell (by exact hfb)).trans c0
      have d1 := (hBr.cell (by exact hfb)).trans c1
      have d2 := (hBr.cell (by exact hfb)).trans c2
      have d3 := (hBr.cell (by exact hfb)).trans c3
      have HL := hide hl'
      have HFO := hide (hfo.below (hBr.alloc hBr.size (.cells #[.int .u8 (fr k).K, .int .u64 (fr k).C, .int .u8 (fr k).G, .slice (fr k).ao (fr k).dl (fr k).dc] 26)))
      obtain ⟨ao2, cap2, rfl⟩ := own_slice hO.own
      have HO := hide hO
      have HK := hide hK
      clear hl' hfo c0 c1 c2 c3 hO hK hBr
      go_wp2_with fail
      refine (araw_fr (fr k) _ (by exact HFO.out)).mono ?_
      rintro e w2 ⟨rfl, hraw, hb2⟩
      have HKA := hide (Kp.trans ((Kp.refl (fun _ => False) wr).alloc _) (Below.kp hb2 (Nat.le_refl _)))
      have HCR := hide (fun j (hj : j < 7 + (fr k).n) => hraw.cellAt j (by omega))
      have hgl := (hraw.lt _ rfl).2
      clear hraw hb2 d0 d1 d2 d3
      go_wp2_with fail
      have hnn := (fr k).n_le
      have hOa : Out w2 w.heap.size (wr.heap.size + 1 + 1) (.slice ao2 l'.length cap2) l' := ⟨HKA.out.row HO.out.own (fun _ _ h => h), fun e => by have := (HO.out.own.lt _ e).2; omega⟩
      refine (aenc_any w.heap.size (wr.heap.size + 1 + 1) (7 + (fr k).n) (.slice ao2 l'.length cap2) l' (fr k).raw (fr k).t w2 hOa (by omega) (fr k).raw_len (by omega) (by omega) (by simpa using hgl) (by have h1 := HK.out.size; have h2 := HKA.out.size; omega) (fun j hj => by have h := HCR.out j hj; rw [Deep.nblk_alloc] at h; rw [h]; simp [List.getD, (fr k).raw_len, hj])).mono ?_
      rintro e w3 ⟨v3, rfl, hO3, -, hK3⟩
      obtain ⟨hO4, hK4⟩ := st_enc h0 HO.out HK.out HKA.out hO3 hK3
      have HO4 := hide hO4
      have HK4 := hide hK4
      clear hOa hO3 hK3 hO4 hK4 HO HK HKA HCR
      go_wp2
      go_roundw
      case rel => exact ⟨k + 1, _, by omega, by go_num, by rw [HL.out]; simp [encs, Fr.enc], HO4.out, HK4.out⟩
      case measure => simp [intOf]; omega
    · obtain rfl : fl = k := by omega
      have hbl : l'.length ≤ 1000000 := by omega
      obtain ⟨ao4, cap4, rfl⟩ := own_slice hO.own
      have HO4 := hide hO
      have HK4 := hide hK
      have HB4 := hide hBr
      have HL := hide hl'
      clear hl' hO hK hBr
      go_wp2_with fail
      refine (errorsNew _ _).mono ?_
      rintro e w4 ⟨rfl, hw4⟩
      have hX4 := Is.new wr 90 #[.string ⟨#[122, 122, 115, 51, 50, 57, 54, 97, 32, 102, 97, 105, 108, 117, 114, 101]⟩]
      have hO4 : Out (wr.alloc (.cells #[.string ⟨#[122, 122, 115, 51, 50, 57, 54, 97, 32, 102, 97, 105, 108, 117, 114, 101]⟩] 90)) w.heap.size 0 (.slice ao4 l'.length cap4) l' := ⟨HO4.out.own.alloc _, HO4.out.ne⟩
      have hB4 := HB4.out.alloc HB4.out.size (.cells #[.string ⟨#[122, 122, 115, 51, 50, 57, 54, 97, 32, 102, 97, 105, 108, 117, 114, 101]⟩] 90)
      have hs4 : w4.heap.size = wr.heap.size + 1 := by rw [hw4, Deep.nblk_alloc]
      rw [← hw4] at hX4 hO4 hB4
      have hnw : w.heap.size ≤ wr.heap.size := HB4.out.size
      have hne : (⟨wr.heap.size, 0, none⟩ : Addr) ≠ ea := fun h => by rw [← h] at heal; exact absurd heal (by simp; omega)
      have HX4 := hide hX4
      have HO5 := hide hO4
      have HBw4 := hide hB4
      clear hX4 hO4 hB4 hw4 HO4 HK4 HB4
      go_wp2_with fail
      refine (newReader_any (wr.heap.size + 1) _).mono ?_
      rintro e w5 ⟨rfl, r1, r2, ⟨c5, r3, r4, r5, r6, r7, r8⟩, rK⟩
      rw [Deep.nblk_alloc] at r1 r2 r3 r5
      rw [← hs4] at r1
      have hR5 := rdr_new HO5.out hbl rfl r1 r2 r3 r4 r5 r6 r7 r8 rK
      have hB5 : Below w.heap.size w w5 := (HBw4.out.alloc HBw4.out.size _).trans (rK.below (by simp; have := HBw4.out.size; omega) (fun _ h => h.elim))
      have HX5 := hide (rK.is (HX4.out.alloc _) (fun h => h))
      have HR5 := hide hR5
      have HB5 := hide hB5
      have HSP := hide (show l' = encsFrom fr 0 fl by have h := encs_from fr fl 0; simp [encs] at h; rw [HL.out, ← h])
      clear hR5 hB5 r1 r2 r3 r4 r5 r6 r7 r8 rK HBw4 HO5 HL HX4
      generalize wr.heap.size = n at *
      go_wp2
      generalize w4.heap.size = S at *
      subst hs4
      go_loopw [46] (fun i wr => ∃ (k : Nat) (lst : Int), k ≤ fl ∧ i = .int .i64 k ∧ Rdr wr (n + 1 + 1 + 1 + 1) (n + 1 + 1) (n + 1 + 1 + 1) (n + 1) (.slice ao4 l'.length cap4) 88 (.pointer (some ⟨n, 0, none⟩)) l' (encsFrom fr k (fl - k)) w.heap.size true lst ∧ Is wr n 90 #[.string ⟨#[122, 122, 115, 51, 50, 57, 54, 97, 32, 102, 97, 105, 108, 117, 114, 101]⟩] ∧ Below w.heap.size w wr) (fun i _ => fl - (intOf i).toNat)
      case atStart => exact ⟨0, 0, by omega, rfl, by have := HR5.out; have h2 := HSP.out; simp only [Nat.sub_zero]; rw [← h2]; exact this, HX5.out, HB5.out⟩
      case round =>
        obtain ⟨k, lst, hk, rfl, hR, hX, hBr⟩ := hrel
        by_cases hlt : k < fl
        · obtain ⟨rfl, hfb⟩ := HFA.out (by omega)
          obtain ⟨hfo, c0, c1, c2, c3⟩ := HF.out k hlt
          have d0 := (hBr.cell (by exact hfb)).trans c0
          have d1 := (hBr.cell (by exact hfb)).trans c1
          have d2 := (hBr.cell (by exact hfb)).trans c2
          have d3 := (hBr.cell (by exact hfb)).trans c3
          have HFO := hide (hfo.below (hBr.alloc hBr.size (.cells #[.int .u8 (fr k).K, .int .u64 (fr k).C, .int .u8 (fr k).G, .slice (fr k).ao (fr k).dl (fr k).dc] 26)))
          obtain ⟨rst, hrst⟩ : ∃ rst, rst = encsFrom fr (k + 1) (fl - (k + 1)) := ⟨_, rfl⟩
          have hsp : encsFrom fr k (fl - k) = [] ++ 26 :: (fr k).t :: (esc (fr k).raw ++ rst) := by
            rw [show fl - k = (fl - (k + 1)) + 1 from by omega, hrst]; simp [encsFrom, Fr.enc]
          rw [hsp] at hR
          have HRS := hide hrst
          have HR := hide hR
          have HBr := hide hBr
          have HX := hide hX
          have htl := ((fr k).kt hfo.K0).tl
          have HTL := hide htl
          clear hfo c0 c1 c2 c3 hR hBr hX hrst hsp htl HR5 HB5 HX5
          go_wp2_with fail
          refine (araw_fr (fr k) _ (by exact HFO.out)).mono ?_
          rintro e w6 ⟨rfl, hraw, hb6⟩
          have hk6 := Below.kp hb6 (Nat.le_refl _)
          have HR6 := hide ((((HR.out.rdrF []).kept ((Kp.refl (fun _ => False) wr).alloc _) (fun _ h => h.elim)).kept hk6 (fun _ h => h.elim)).rdr)
          have HX6 := hide (hk6.is (HX.out.alloc _) (fun h => h))
          have HB6 := hide ((HBr.out.alloc HBr.out.size _).trans (hb6.mono (by simp; have := HBr.out.size; omega)))
          have HCR := hide (fun j (hj : j < 7 + (fr k).n) => hraw.cellAt j (by omega))
          have hgl := (hraw.lt _ rfl).2
          rw [Deep.nblk_alloc] at hgl HCR
          have hRl : n + 1 + 1 + 1 + 1 < wr.heap.size := by obtain ⟨f, hf, _⟩ := HR.out.row; exact hf.lt
          clear hraw hb6 hk6 d0 d1 d2 d3 HR HBr HX
          go_wp2_with fail
          refine (next_some (n + 1 + 1 + 1 + 1) (n + 1 + 1) (n + 1 + 1 + 1) (n + 1) (.slice ao4 l'.length cap4) 88 (.pointer (some ⟨n, 0, none⟩)) l' rst [] (fr k).raw w.heap.size true lst (fr k).t (fr k).n HTL.out _ (by exact HR6.out) (fun _ h => by simp at h) (.inl rfl) (fr k).raw_len).mono ?_
          rintro e w7 ⟨rfl, ⟨lst7, hR7⟩, hK7⟩
          obtain ⟨s6, hs6⟩ : ∃ s, (fr k).raw.getD 6 0 = s := ⟨_, rfl⟩
          obtain ⟨c6, hc6⟩ : ∃ c, cnt (fr k).raw 6 = c := ⟨_, rfl⟩
          rw [hs6, hc6]
          have hnn := (fr k).n_le
          have hs7 : wr.heap.size + 1 + 1 < w7.heap.size := Nat.lt_of_lt_of_le (by omega) hK7.size
          have HAS := hide (fun (W : World) (hW : Kp (fun _ => False) w7 W) => asame_any (n + 1 + 1 + 1 + 1) (wr.heap.size + 1 + 1) (fr k).n (fr k).t (fr k).raw W hnn.2
            (fun j hj => hW.cell (hR7.cells.2.2.2.2.2.1 j hj (by omega)) (fun h => h))
            (fun j hj => hW.cell (hK7.cell (show w6.cell? ⟨wr.heap.size + 1 + 1, j, none⟩ = some (.int .u8 ((fr k).raw.getD j 0)) by rw [HCR.out j hj]; simp [List.getD, (fr k).raw_len, hj]) (by omega)) (fun h => h))
            (Nat.lt_of_lt_of_le (by omega) hW.size) (Nat.lt_of_lt_of_le hs7 hW.size))
          rw [hs6, hc6] at HAS
          have HR7 := hide hR7
          have HX7 := hide (hK7.is HX6.out (by omega))
          have HB7 := hide (HB6.out.trans (hK7.below HB6.out.size (fun i hi => by omega)))
          clear hs6 hc6 hR7 hK7 HR6 HB6 HCR HX6
          go_wp2_with fail
          refine (HAS.out _ (by exact (Kp.refl (fun _ => False) w7).alloc _)).mono ?_
          rintro e w8 ⟨rfl, hk8⟩
          have HR8 := hide (((HR7.out.kept ((Kp.refl (fun _ => False) w7).alloc _) (fun _ h => h.elim)).kept hk8 (fun _ h => h.elim)).rdr)
          have HX8 := hide (hk8.is (HX7.out.alloc _) (fun h => h))
          have HB8 := hide ((HB7.out.alloc HB7.out.size _).trans (hk8.below (by simp; have := HB7.out.size; omega) (fun _ h => h.elim)))
          clear hk8 HR7 HB7 HAS HX7
          go_wp2
          go_roundw
          case rel => exact ⟨k + 1, lst7, by omega, by go_num, by rw [← HRS.out]; exact HR8.out, HX8.out, HB8.out⟩
          case measure => simp [intOf]; omega
        · obtain rfl : fl = k := by omega
          have g0 := (hBr.cell (by exact h0)).trans HE.out
          have hR0 : Rdr wr (n + 1 + 1 + 1 + 1) (n + 1 + 1) (n + 1 + 1 + 1) (n + 1) (.slice ao4 l'.length cap4) 88 (.pointer (some ⟨n, 0, none⟩)) l' [] w.heap.size true lst := by simpa [encsFrom] using hR
          have HN := hide (next_wrap Fi (n + 1 + 1 + 1 + 1) (n + 1 + 1) (n + 1 + 1 + 1) (n + 1) n (.slice ao4 l'.length cap4) ea _ cb tb l' w.heap.size true lst wr hR0 (by rw [hBr.tape]; exact HFI.out) g0 hne hX ((hBr.block ea.block heal).trans HEB.out) (by omega) (by omega))
          have HBr := hide hBr
          clear hR hR0 hX hBr g0 HR5 HB5 HX5
          have hty := fun pb => run_eql_iface_types (P := Ybaf.prog) 123 88 (.pointer (some ⟨pb, 0, none⟩)) (.pointer (some ea)) Ybaf.underlying36 (by decide)
          go_wp2_with fail
          refine HN.out.mono ?_
          rintro e w9 ⟨pb, rfl, hc9, hK9⟩
          have hB9 := HBr.out.trans (hK9.below HBr.out.size (fun i hi => by omega))
          have g9 : w9.cell? ⟨0, 0, none⟩ = some (.iface 88 (.pointer (some ea))) := (hB9.cell (by exact h0)).trans HE.out
          have h09 : 0 < w9.heap.size := Nat.lt_of_lt_of_le h0 hB9.size
          have HC9 := hide (((Kp.refl (fun _ => False) w9).alloc (.cells #[.int .u8 0, .int .u64 0, .int .u8 0, .slice none 0 0] 40)).cell hc9 (fun h => h))
          have HB9 := hide hB9
          clear hc9 hK9 hB9 HN HBr
          go_wp2_with fail
          refine (is_wrap_same pb 0 ⟨n, 0, none⟩ _ (by exact HC9.out)).mono ?_
          rintro e w10 ⟨rfl, hw10⟩
          subst hw10
          have hnil := eql_nil_slice
          go_wp2
          go_ret
          exact ⟨rfl, HB9.out.alloc HB9.out.size _⟩
end Go.Proofs.YbulkbpfuFmt
