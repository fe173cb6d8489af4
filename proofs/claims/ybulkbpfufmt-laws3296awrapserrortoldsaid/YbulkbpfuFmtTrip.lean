import Derived.Test.YbulkbpfuFmtTail
namespace Go.Proofs.YbulkbpfuFmt
open Go.ChangeShapes Go.WideShapes Go.ChangeAt Go.RowKit
set_option linter.unusedVariables false

set_option maxRecDepth 100000 in
theorem law_long (ja fa : Option Addr) (jl jc fl fc : Nat) (x : Fr) (cut : Int) (w : World) (h : 300 < fl ∨ 1024 < jl) :
    Calls Ybaf.prog 3 #[.slice ja jl jc, .slice fa fl fc, .agg #[.int .u8 x.K, .int .u64 x.C, .int .u8 x.G, .slice x.ao x.dl x.dc], .int .u16 cut] w fun e w' => e = .returned (.bool true) ∧ Below w.heap.size w w' := by
  by_cases h1 : 300 < fl
  · go_enter Ybaf.func3, Ybaf.ntmps3
    go_wp2
    go_ret
    exact ⟨rfl, (Below.refl _ _).alloc (Nat.le_refl _) _⟩
  · have h2 : 1024 < jl := by omega
    have h3 : decide ((300 : Int) < (fl : Int)) = false := by simp; omega
    go_enter Ybaf.func3, Ybaf.ntmps3
    go_wp2
    go_ret
    exact ⟨rfl, (Below.refl _ _).alloc (Nat.le_refl _) _⟩

/-- What one append to the stream leaves. -/
theorem st_next {W1 w w2 : World} {n : Nat} {v v' : Value} {l news : List Int} {c : Array Value} (h0 : 0 < W1.heap.size) (hO : Out w W1.heap.size 0 v l) (hK : Kp (fun _ => False) W1 w)
    (h1 : w2.ownsRow W1.heap.size 5 1 v' (l.length + n) (l.map (Value.int .u8) ++ news.map (Value.int .u8))) (hn : n = news.length) (h2 : (w.alloc (.cells c 5)).grownBy w2 v.ownBlock) (h4 : v'.ownBlock = v.ownBlock ∨ v'.ownBlock = some (w.heap.size + 1)) :
    Out w2 W1.heap.size 0 v' (l ++ news) ∧ Kp (fun _ => False) W1 w2 := by
  have := out_next (w0 := W1) (X := fun _ => False) (g := 0) (Nat.lt_of_lt_of_le h0 hK.size) hO (fun k hk hlt => by have := (hO.own.lt k hk).1; omega) hK h1 hn h2 h4
  exact ⟨this.1, this.2.2⟩

/-- What the encoding of one more frame leaves of the stream. -/
theorem st_enc {W1 wr w2 w3 : World} {g : Nat} {v v' : Value} {l l' : List Int} (h0 : 0 < W1.heap.size) (hO : Out wr W1.heap.size 0 v l) (hK : Kp (fun _ => False) W1 wr) (hb : Kp (fun _ => False) wr w2) (h3 : Out w3 W1.heap.size g v' l') (hk : Kp (fun k => v.ownBlock = some k) w2 w3) :
    Out w3 W1.heap.size 0 v' l' ∧ Kp (fun _ => False) W1 w3 := by
  refine ⟨⟨h3.own, fun e => by have := (h3.own.lt 0 e).1; omega⟩, (hK.trans hb).drop hk (fun i hi hlt => by have := (hO.own.lt i hi).1; omega)⟩

/-- append(stream, part[:k]...). -/
theorem st_part {W1 w w2 : World} {n : Nat} {v v' : Value} {l news : List Int} (h0 : 0 < W1.heap.size) (hO : Out w W1.heap.size 0 v l) (hK : Kp (fun _ => False) W1 w)
    (h1 : w2.ownsRow W1.heap.size 5 1 v' (l.length + n) (l.map (Value.int .u8) ++ news.map (Value.int .u8))) (hn : n = news.length) (h2 : w.grownBy w2 v.ownBlock) :
    Out w2 W1.heap.size 0 v' (l ++ news) ∧ Kp (fun _ => False) W1 w2 := by
  subst hn
  have h3 : w2.ownsRow W1.heap.size 5 1 v' (l ++ news).length ((l ++ news).map (Value.int .u8)) := by simpa using h1
  exact ⟨⟨h3, fun e => by have := (h3.lt 0 e).1; omega⟩, hK.grown h2 (fun k hk hlt => by have := (hO.own.lt k hk).1; omega)⟩
theorem part_cells {w : World} {pb kk : Nat} {e : List Int} (hk : kk ≤ e.length) (h : ∀ j, j < e.length → w.cell? ⟨pb, j, none⟩ = some (.int .u8 (e.getD j 0))) :
    ∀ j u, ((e.take kk).map (Value.int .u8))[j]? = some u → w.cell? ((⟨pb, 0, none⟩ : Addr).add j) = some u := by
  intro j u hu
  have hj : j < kk := by
    have := (List.getElem?_eq_some_iff.1 hu).1
    simp at this
    omega
  rw [Addr.add_lit, Nat.zero_add, h j (by omega)]
  rw [← hu]
  simp [List.getD, hj, show j < e.length by omega]

set_option maxRecDepth 100000 in
set_option maxHeartbeats 8000000 in
theorem law_walk (ja fa : Option Addr) (jb jo jl jc fb fo fl fc : Nat) (J : List Int) (fr : Nat → Fr) (x : Fr) (cut : Int) (ea : Addr) (w : World) (hfl : fl ≤ 300) (hjl : jl ≤ 1024) (hcut : 0 ≤ cut ∧ cut ≤ 65535) (h0 : 0 < w.heap.size)
    (hja : 0 < jl → ja = some ⟨jb, jo, none⟩ ∧ jb < w.heap.size) (hJ : ∀ j, j < jl → w.cell? ⟨jb, jo + j, none⟩ = some (.int .u8 (J.getD j 0))) (hJl : jl ≤ J.length)
    (hfa : 0 < fl → fa = some ⟨fb, fo, none⟩ ∧ fb < w.heap.size) (hF : ∀ i, i < fl → FrOk w (fr i) ∧ w.cell? ⟨fb, fo + i * 4, none⟩ = some (.int .u8 (fr i).K) ∧ w.cell? ⟨fb, fo + i * 4 + 1, none⟩ = some (.int .u64 (fr i).C) ∧ w.cell? ⟨fb, fo + i * 4 + 2, none⟩ = some (.int .u8 (fr i).G) ∧ w.cell? ⟨fb, fo + i * 4 + 3, none⟩ = some (.slice (fr i).ao (fr i).dl (fr i).dc))
    (hx : FrOk w x) (hE : w.cell? ⟨0, 0, none⟩ = some (.iface 88 (.pointer (some ea)))) :
    Calls Ybaf.prog 3 #[.slice ja jl jc, .slice fa fl fc, .agg #[.int .u8 x.K, .int .u64 x.C, .int .u8 x.G, .slice x.ao x.dl x.dc], .int .u16 cut] w fun e w' => e = .returned (.bool true) ∧ Below w.heap.size w w' := by
  have hd1 : decide ((300 : Int) < (fl : Int)) = false := by simp; omega
  have hd2 : decide ((1024 : Int) < (jl : Int)) = false := by simp; omega
  obtain ⟨i0, hi, hz0, hz1, hz2⟩ := info_parts infoB
  have HJA := hide hja
  have HJ := hide hJ
  have HJL := hide hJl
  have HFA := hide hfa
  have HF := hide hF
  have HX := hide hx
  have HX0 := hide hx.K0
  have HE := hide hE
  clear hja hJ hJl hfa hF hx hE
  go_enter Ybaf.func3, Ybaf.ntmps3
  go_wp2
  have HB1 := hide ((Below.refl w.heap.size w).alloc (Nat.le_refl _) (.cells #[.int .u8 x.K, .int .u64 x.C, .int .u8 x.G, .slice x.ao x.dl x.dc] 26))
  have HI1 := hide (Is.new w 26 #[.int .u8 x.K, .int .u64 x.C, .int .u8 x.G, .slice x.ao x.dl x.dc])
  generalize w.alloc (.cells #[.int .u8 x.K, .int .u64 x.C, .int .u8 x.G, .slice x.ao x.dl x.dc] 26) = W1 at *
  have hW1 : 0 < W1.heap.size := Nat.lt_of_lt_of_le h0 HB1.out.size
  go_loopw [9, 11, 40] (fun out s11 i wr => ∃ (k : Nat) (l : List Int), k ≤ jl ∧ i = .int .i64 k ∧ l = (J.take k).map jf ∧ Out wr W1.heap.size 0 out l ∧ Kp (fun _ => False) W1 wr) (fun _ _ i _ => jl - (intOf i).toNat)
  case atStart => exact ⟨0, [], by omega, rfl, by simp, ⟨World.ownsRow_nil _ _ _ _, by simp [Value.ownBlock]⟩, Kp.refl _ _⟩
  case round =>
    obtain ⟨k, l, hk, rfl, hl, hO, hK⟩ := hrel
    by_cases hlt : k < jl
    · obtain ⟨rfl, hjb⟩ := HJA.out (by omega)
      obtain ⟨b, hb⟩ : ∃ b, J.getD k 0 = b := ⟨_, rfl⟩
      have hcb : wr.cell? ⟨jb, jo + k, none⟩ = some (.int .u8 b) := by
        rw [← hb]; exact hK.cell ((HB1.out.cell (by exact hjb)).trans (HJ.out k hlt)) (fun h => h)
      have HLN := hide (show (J.take (k + 1)).map jf = l ++ [jf b] by
        rw [hl, List.take_succ_eq_append_getElem (by have := HJL.out; omega), List.map_append, ← hb]; simp [List.getD, show k < J.length by have := HJL.out; omega])
      have hll : l.length ≤ 1024 := by rw [hl]; simp; omega
      obtain ⟨ao2, cap2, rfl⟩ := own_slice hO.own
      have hs1 := hK.size
      have HO := hide hO
      have HK := hide hK
      clear hl hb hO hK
      by_cases h26 : b = 26
      · subst h26
        go_wp2_with (at_builtin; refine wpList_append_own_at _ rfl (.tmp 46) (.tmp 48) 22 rfl W1.heap.size 5 i0 _ 1 1 Ybaf.underlying22 hi hz0 hz1 hz2 rfl (by decide) _ l.length _ rfl (HO.out.own.alloc _) ⟨wr.heap.size, 0, none⟩ 1 1 [.int .u8 27] rfl rfl (one_cell _ _) (by intro u hu; simp at hu; subst hu; rfl) (by unfold maxLen; omega) (by omega) (by simp; omega) ?_)
        intro v2 w2 o2 g2 _ a2
        obtain ⟨hO2, hK2⟩ := st_next (news := [27]) hW1 HO.out HK.out o2 rfl g2 a2
        have HO2 := hide hO2
        have HK2 := hide hK2
        clear hO2 hK2 o2 g2 a2 HO HK hs1
        go_wp2
        go_roundw
        case rel => exact ⟨k + 1, l ++ [27], by omega, by go_num, by rw [HLN.out]; simp [jf], HO2.out, HK2.out⟩
        case measure => simp [intOf]; omega
      · have hne : (b == 26) = false := beq_eq_false_iff_ne.2 h26
        have hjf : jf b = b := by simp [jf, h26]
        rw [hjf] at HLN
        clear h26 hjf
        go_wp2_with (at_builtin; refine wpList_append_own_at _ rfl (.tmp 46) (.tmp 48) 22 rfl W1.heap.size 5 i0 _ 1 1 Ybaf.underlying22 hi hz0 hz1 hz2 rfl (by decide) _ l.length _ rfl (HO.out.own.alloc _) ⟨wr.heap.size, 0, none⟩ 1 1 [.int .u8 b] rfl rfl (one_cell _ _) (by intro u hu; simp at hu; subst hu; rfl) (by unfold maxLen; omega) (by omega) (by simp; omega) ?_)
        intro v2 w2 o2 g2 _ a2
        obtain ⟨hO2, hK2⟩ := st_next (news := [b]) hW1 HO.out HK.out o2 rfl g2 a2
        have HO2 := hide hO2
        have HK2 := hide hK2
        clear hO2 hK2 o2 g2 a2 HO HK hs1
        go_wp2
        go_roundw
        case rel => exact ⟨k + 1, l ++ [b], by omega, by go_num, by rw [HLN.out], HO2.out, HK2.out⟩
        case measure => simp [intOf]; omega
    · obtain rfl : jl = k := by omega
      obtain ⟨js, hjs⟩ : ∃ js, js = (J.take jl).map jf := ⟨_, rfl⟩
      rw [← hjs] at hl
      have HJS := hide (show (∀ y ∈ js, y ≠ 26) ∧ js.length ≤ 1024 from ⟨fun y hy => by rw [hjs] at hy; obtain ⟨z, _, rfl⟩ := List.mem_map.1 hy; exact jf_ne z, by rw [hjs]; simp; omega⟩)
      subst hl
      clear hjs HJ HJA HJL
      go_wp2
      rename World => wj
      have HOj := hide hO
      have HKj := hide hK
      clear hO hK
      go_loopw [9, 13, 14, 15, 53] (fun out s13 s14 s15 i wr => ∃ (k : Nat) (l' : List Int), k ≤ fl ∧ i = .int .i64 k ∧ l' = l ++ encs fr k ∧ Out wr W1.heap.size 0 out l' ∧ Kp (fun _ => False) W1 wr) (fun _ _ _ _ i _ => fl - (intOf i).toNat)
      case atStart => exact ⟨0, l, by omega, rfl, by simp [encs], HOj.out, HKj.out⟩
      case round =>
        obtain ⟨k, l', hk, rfl, hl', hO, hK⟩ := hrel
        have hBr : Below w.heap.size w wr := HB1.out.trans (hK.below HB1.out.size (fun _ h => h.elim))
        have hll : l'.length ≤ 1024 + 44 * 300 := by
          have h1 := encs_len fr k
          have h2 := HJS.out.2
          rw [hl']; simp; omega
        by_cases hlt : k < fl
        · obtain ⟨rfl, hfb⟩ := HFA.out (by omega)
          obtain ⟨hfo, c0, c1, c2, c3⟩ := HF.out k hlt
          have d0 := (hBr.cell (by exact hfb)).trans c0
          have d1 := (hBr.cell (by exact hfb)).trans c1
          have d2 := (hBr.cell (by exact hfb)).trans c2
          have d3 := (hBr.cell (by exact hfb)).trans c3
          have HL := hide hl'
          have HFO := hide (hfo.below (hBr.alloc hBr.size (.cells #[.int .u8 (fr k).K, .int .u64 (fr k).C, .int .u8 (fr k).G, .slice (fr k).ao (fr k).dl (fr k).dc] 26)))
          obtain ⟨ao2, cap2, rfl⟩ := own_slice hO.own
          have HO := hide hO
          have HK := hide hK
          clear hl' hfo c0 c1 c2 c3 hO hK hBr HOj HKj
          go_wp2_with fail
          refine (araw_fr (fr k) _ (by exact HFO.out)).mono ?_
          rintro e w2 ⟨rfl, hraw, hb2⟩
          have HKA := hide (Kp.trans ((Kp.refl (fun _ => False) wr).alloc _) (Below.kp hb2 (Nat.le_refl _)))
          have HCR := hide (fun j (hj : j < 7 + (fr k).n) => hraw.cellAt j (by omega))
          have hgl := (hraw.lt _ rfl).2
          clear hraw hb2 d0 d1 d2 d3
          go_wp2_with fail
          have hnn := (fr k).n_le
          have hOa : Out w2 W1.heap.size (wr.heap.size + 1 + 1) (.slice ao2 l'.length cap2) l' := ⟨HKA.out.row HO.out.own (fun _ _ h => h), fun e => by have := (HO.out.own.lt _ e).2; omega⟩
          refine (aenc_any W1.heap.size (wr.heap.size + 1 + 1) (7 + (fr k).n) (.slice ao2 l'.length cap2) l' (fr k).raw (fr k).t w2 hOa (by omega) (fr k).raw_len (by omega) (by omega) (by simpa using hgl) (by have h1 := HK.out.size; have h2 := HKA.out.size; omega) (fun j hj => by have h := HCR.out j hj; rw [Deep.nblk_alloc] at h; rw [h]; simp [List.getD, (fr k).raw_len, hj])).mono ?_
          rintro e w3 ⟨v3, rfl, hO3, -, hK3⟩
          obtain ⟨hO4, hK4⟩ := st_enc hW1 HO.out HK.out HKA.out hO3 hK3
          have HO4 := hide hO4
          have HK4 := hide hK4
          clear hOa hO3 hK3 hO4 hK4 HO HK HKA HCR
          go_wp2
          go_roundw
          case rel => exact ⟨k + 1, _, by omega, by go_num, by rw [HL.out]; simp [encs, Fr.enc], HO4.out, HK4.out⟩
          case measure => simp [intOf]; omega
        · obtain rfl : fl = k := by omega
          have hI := hK.is HI1.out (fun h => h)
          have a0 := hI.cell 0
          have a1 := hI.cell 1
          have a2 := hI.cell 2
          have a3 := hI.cell 3
          simp at a0 a1 a2 a3
          have HXr := hide (HX.out.below hBr)
          have HL := hide hl'
          have HO := hide hO
          have HK := hide hK
          have HBr := hide hBr
          clear hl' hO hK hBr hI HOj HKj HX
          go_wp2_with fail
          refine (araw_fr x _ (by exact HXr.out)).mono ?_
          rintro e w2 ⟨rfl, hraw, hb2⟩
          have HKA := hide (Below.kp hb2 (Nat.le_refl _))
          have HCR := hide (fun j (hj : j < 7 + x.n) => hraw.cellAt j (by omega))
          have hgl := (hraw.lt _ rfl).2
          clear hraw hb2 a0 a1 a2 a3
          go_wp2_with fail
          have hnn := x.n_le
          refine (aenc_any W1.heap.size (wr.heap.size + 1) (7 + x.n) (.slice none 0 0) [] x.raw x.t w2 ⟨World.ownsRow_nil _ _ _ _, by simp [Value.ownBlock]⟩ (by simp) x.raw_len (by omega) (by omega) (by simpa using hgl) (by have h1 := HK.out.size; have h2 := HKA.out.size; omega) (fun j hj => by have h := HCR.out j hj; rw [h]; simp [List.getD, x.raw_len, hj])).mono ?_
          rintro e w3 ⟨v3, rfl, hO3, -, hK3⟩
          have hKB : Kp (fun _ => False) wr w3 := HKA.out.trans (hK3.mono (fun k h => by simp [Value.ownBlock] at h))
          have hP : w3.ownsRow W1.heap.size 5 1 v3 x.enc.length (x.enc.map (Value.int .u8)) := hO3.own
          obtain ⟨hlen1, hlen2⟩ := x.enc_len
          obtain ⟨pb, pcap, rfl, hple, hpc⟩ := own_at hP (by omega)
          obtain ⟨kk, hkk⟩ : ∃ kk : Nat, cut % (x.enc.length : Int) = kk := ⟨(cut % (x.enc.length : Int)).toNat, by have := Int.emod_nonneg cut (show (x.enc.length : Int) ≠ 0 by omega); omega⟩
          have hkl : kk < x.enc.length := by have := Int.emod_lt_of_pos cut (show (0 : Int) < (x.enc.length : Int) by omega); omega
          have HO3 := hide (show Out w3 W1.heap.size 0 _ l' from ⟨hKB.row HO.out.own (fun _ _ h => h), HO.out.ne⟩)
          have HK3 := hide (HK.out.trans hKB)
          have HPC := hide (part_cells (Nat.le_of_lt hkl) hpc)
          have HNL := hide (show ((x.enc.take kk).map (Value.int .u8)).length = kk * 1 by simp; omega)
          obtain ⟨M, hM⟩ : ∃ M : Nat, x.enc.length = M := ⟨_, rfl⟩
          rw [hM] at hlen1 hlen2 hkk hkl hple ⊢
          have HM := hide hM
          have hs3 := HK3.out.size
          have hc0 : (0 : Int) ≤ (kk : Int) := by omega
          have hc1 : (kk : Int) ≤ (pcap : Int) := by omega
          obtain ⟨ao2, cap2, hv2⟩ := own_slice HO3.out.own
          rw [hv2]
          rw [hv2] at HO3
          clear hO3 hK3 hKB hP hpc HO HK HKA HCR hv2 hM
          go_wp2_with (at_builtin; refine wpList_append_own_at _ rfl (.tmp 80) (.tmp 83) 22 rfl W1.heap.size 5 i0 _ 1 1 Ybaf.underlying22 hi hz0 hz1 hz2 rfl (by decide) _ l'.length _ rfl HO3.out.own ⟨pb, 0, none⟩ kk pcap ((x.enc.take kk).map (Value.int .u8)) rfl HNL.out HPC.out (ints_oneCell _ _) (by unfold maxLen; omega) (by omega) (by omega) ?_)
          intro v4 w4 o4 g4 _ a4
          obtain ⟨hO4, hK4⟩ := st_part (n := kk) (news := x.enc.take kk) hW1 HO3.out HK3.out (by rw [List.map_take]; exact o4) (by have := HNL.out; simp at this ⊢; omega) g4
          obtain ⟨bs, hbs⟩ : ∃ bs, bs = l' ++ x.enc.take kk := ⟨_, rfl⟩
          have hbl : bs.length ≤ 1000000 := by rw [hbs]; simp; omega
          rw [← hbs] at hO4
          have HBS := hide hbs
          obtain ⟨ao4, cap4, rfl⟩ := own_slice hO4.own
          have HO4 := hide hO4
          have HK4 := hide hK4
          have HBw4 := hide (HB1.out.trans (hK4.below HB1.out.size (fun _ h => h.elim)))
          have e0 : w4.cell? ⟨0, 0, none⟩ = some (.iface 88 (.pointer (some ea))) := (HBw4.out.cell (by exact h0)).trans HE.out
          clear hO4 hK4 o4 g4 a4 HO3 HK3 HPC HNL hs3 hc0 hc1 hbs
          go_wp2_with fail
          refine (newReader_any w4.heap.size _).mono ?_
          rintro e w5 ⟨rfl, r1, r2, ⟨c5, r3, r4, r5, r6, r7, r8⟩, rK⟩
          rw [Deep.nblk_alloc] at r1 r2 r3 r5
          have hR5 := rdr_new HO4.out hbl rfl r1 r2 r3 r4 r5 r6 r7 r8 rK
          have hB5 : Below w.heap.size w w5 := (HBw4.out.alloc HBw4.out.size _).trans (rK.below (by simp; have := HBw4.out.size; omega) (fun _ h => h.elim))
          have hS0 : w.heap.size ≤ w4.heap.size := HBw4.out.size
          have HR5 := hide hR5
          have HB5 := hide hB5
          have HSP := hide (show bs = l ++ (encsFrom fr 0 fl ++ x.enc.take kk) by have h := encs_from fr fl 0; simp [encs] at h; rw [HBS.out, HL.out, ← h]; simp)
          clear hR5 hB5 r1 r2 r3 r4 r5 r6 r7 r8 rK e0 HBr HBw4 HO4 HK4 HBS HL HB1 HI1
          go_wp2
          generalize w4.heap.size = S at *
          go_loopw [93] (fun i wr => ∃ (k : Nat) (jk : List Int) (lst : Int), k ≤ fl ∧ i = .int .i64 k ∧ Rdr wr (S + 1 + 1 + 1) (S + 1) (S + 1 + 1) S (.slice ao4 bs.length cap4) 88 (.pointer (some ea)) bs (jk ++ (encsFrom fr k (fl - k) ++ x.enc.take kk)) W1.heap.size true lst ∧ (∀ y ∈ jk, y ≠ 26) ∧ Below w.heap.size w wr) (fun i _ => fl - (intOf i).toNat)
          case atStart => exact ⟨0, l, 0, by omega, rfl, by have := HR5.out; rw [HSP.out] at this ⊢; exact this, HJS.out.1, HB5.out⟩
          case round =>
            obtain ⟨k, jk, lst, hk, rfl, hR, hjk, hBr⟩ := hrel
            by_cases hlt : k < fl
            · obtain ⟨rfl, hfb⟩ := HFA.out (by omega)
              obtain ⟨hfo, c0, c1, c2, c3⟩ := HF.out k hlt
              have d0 := (hBr.cell (by exact hfb)).trans c0
              have d1 := (hBr.cell (by exact hfb)).trans c1
              have d2 := (hBr.cell (by exact hfb)).trans c2
              have d3 := (hBr.cell (by exact hfb)).trans c3
              have HFO := hide (hfo.below (hBr.alloc hBr.size (.cells #[.int .u8 (fr k).K, .int .u64 (fr k).C, .int .u8 (fr k).G, .slice (fr k).ao (fr k).dl (fr k).dc] 26)))
              obtain ⟨rst, hrst⟩ : ∃ rst, rst = encsFrom fr (k + 1) (fl - (k + 1)) ++ x.enc.take kk := ⟨_, rfl⟩
              have hsp : jk ++ (encsFrom fr k (fl - k) ++ x.enc.take kk) = jk ++ 26 :: (fr k).t :: (esc (fr k).raw ++ rst) := by
                rw [show fl - k = (fl - (k + 1)) + 1 from by omega, hrst]; simp [encsFrom, Fr.enc]
              rw [hsp] at hR
              have HRS := hide hrst
              have HR := hide hR
              have HJK := hide hjk
              have HBr := hide hBr
              have htl := ((fr k).kt hfo.K0).tl
              have HTL := hide htl
              clear hfo c0 c1 c2 c3 hR hjk hBr hrst hsp htl HR5 HB5
              go_wp2_with fail
              refine (araw_fr (fr k) _ (by exact HFO.out)).mono ?_
              rintro e w6 ⟨rfl, hraw, hb6⟩
              have hk6 := Below.kp hb6 (Nat.le_refl _)
              have HR6 := hide ((((HR.out.rdrF []).kept ((Kp.refl (fun _ => False) wr).alloc _) (fun _ h => h.elim)).kept hk6 (fun _ h => h.elim)).rdr)
              have HB6 := hide ((HBr.out.alloc HBr.out.size _).trans (hb6.mono (by simp; have := HBr.out.size; omega)))
              have HCR := hide (fun j (hj : j < 7 + (fr k).n) => hraw.cellAt j (by omega))
              have hgl := (hraw.lt _ rfl).2
              rw [Deep.nblk_alloc] at hgl HCR
              have hRl : S + 1 + 1 + 1 < wr.heap.size := by obtain ⟨f, hf, _⟩ := HR.out.row; exact hf.lt
              clear hraw hb6 hk6 d0 d1 d2 d3 HR HBr
              go_wp2_with fail
              refine (next_some (S + 1 + 1 + 1) (S + 1) (S + 1 + 1) S (.slice ao4 bs.length cap4) 88 (.pointer (some ea)) bs rst jk (fr k).raw W1.heap.size true lst (fr k).t (fr k).n HTL.out _ (by exact HR6.out) HJK.out (.inl rfl) (fr k).raw_len).mono ?_
              rintro e w7 ⟨rfl, ⟨lst7, hR7⟩, hK7⟩
              obtain ⟨s6, hs6⟩ : ∃ s, (fr k).raw.getD 6 0 = s := ⟨_, rfl⟩
              obtain ⟨c6, hc6⟩ : ∃ c, cnt (fr k).raw 6 = c := ⟨_, rfl⟩
              rw [hs6, hc6]
              have hnn := (fr k).n_le
              have hs7 : wr.heap.size + 1 + 1 < w7.heap.size := Nat.lt_of_lt_of_le (by omega) hK7.size
              have HAS := hide (fun (W : World) (hW : Kp (fun _ => False) w7 W) => asame_any (S + 1 + 1 + 1) (wr.heap.size + 1 + 1) (fr k).n (fr k).t (fr k).raw W hnn.2
                (fun j hj => hW.cell (hR7.cells.2.2.2.2.2.1 j hj (by omega)) (fun h => h))
                (fun j hj => hW.cell (hK7.cell (show w6.cell? ⟨wr.heap.size + 1 + 1, j, none⟩ = some (.int .u8 ((fr k).raw.getD j 0)) by rw [HCR.out j hj]; simp [List.getD, (fr k).raw_len, hj]) (by omega)) (fun h => h))
                (Nat.lt_of_lt_of_le (by omega) hW.size) (Nat.lt_of_lt_of_le hs7 hW.size))
              rw [hs6, hc6] at HAS
              have HR7 := hide hR7
              have HB7 := hide (HB6.out.trans (hK7.below HB6.out.size (fun i hi => by omega)))
              clear hs6 hc6 hR7 hK7 HR6 HB6 HCR
              go_wp2_with fail
              refine (HAS.out _ (by exact (Kp.refl (fun _ => False) w7).alloc _)).mono ?_
              rintro e w8 ⟨rfl, hk8⟩
              have HR8 := hide (((HR7.out.kept ((Kp.refl (fun _ => False) w7).alloc _) (fun _ h => h.elim)).kept hk8 (fun _ h => h.elim)).rdr)
              have HB8 := hide ((HB7.out.alloc HB7.out.size _).trans (hk8.below (by simp; have := HB7.out.size; omega) (fun _ h => h.elim)))
              clear hk8 HR7 HB7 HAS
              go_wp2
              go_roundw
              case rel => exact ⟨k + 1, [], lst7, by omega, by go_num, by rw [← HRS.out]; exact HR8.out, fun _ h => by simp at h, HB8.out⟩
              case measure => simp [intOf]; omega
            · obtain rfl : fl = k := by omega
              have HT := hide (Tail.cut jk x HX0.out kk (by rw [HM.out]; exact hkl) hjk lst)
              have HR0 := hide (show Rdr wr (S + 1 + 1 + 1) (S + 1) (S + 1 + 1) S (.slice ao4 bs.length cap4) 88 (.pointer (some ea)) bs (jk ++ x.enc.take kk) W1.heap.size true lst by simpa [encsFrom] using hR)
              have HBr := hide hBr
              clear hR hjk hBr HR5 HB5
              have hneq := neq_same ea
              have hnil := neq_nil_slice
              go_wp2
              go_loopw [27] (fun i wr => ∃ (k : Nat) (rst : List Int) (ins : Bool) (lst : Int), k ≤ 2 ∧ i = .int .i64 k ∧ Rdr wr (S + 1 + 1 + 1) (S + 1) (S + 1 + 1) S (.slice ao4 bs.length cap4) 88 (.pointer (some ea)) bs rst W1.heap.size ins lst ∧ Tail rst ins lst ∧ Below w.heap.size w wr) (fun i _ => 2 - (intOf i).toNat)
              case atStart => exact ⟨0, _, true, lst, by omega, rfl, HR0.out, HT.out, HBr.out⟩
              case round =>
                obtain ⟨k, rst, ins, lst, hk2, rfl, hR, hT, hBw⟩ := hrel
                by_cases hlt2 : k < 2
                · have g0 := (hBw.cell (by exact h0)).trans HE.out
                  have HN := hide (next_eof (S + 1 + 1 + 1) (S + 1) (S + 1 + 1) S (.slice ao4 bs.length cap4) ea bs rst W1.heap.size ins lst wr hR hT g0 (by omega))
                  have HBw := hide hBw
                  clear hR hT hBw g0 HR0 HT HBr
                  go_wp2_with fail
                  refine HN.out.mono ?_
                  rintro e w9 ⟨rfl, ⟨ins9, lst9, hR9⟩, hK9⟩
                  have hB9 := HBw.out.trans (hK9.below HBw.out.size (fun i hi => by omega))
                  have g9 : w9.cell? ⟨0, 0, none⟩ = some (.iface 88 (.pointer (some ea))) := (hB9.cell (by exact h0)).trans HE.out
                  have h09 : 0 < w9.heap.size := Nat.lt_of_lt_of_le h0 hB9.size
                  have HR9 := hide hR9
                  have HB9 := hide hB9
                  clear hR9 hK9 hB9 HN HBw
                  go_wp2
                  go_roundw
                  case rel => exact ⟨k + 1, [], ins9, lst9, by omega, by go_num, ((HR9.out.rdrF []).kept ((Kp.refl (fun _ => False) w9).alloc _) (fun _ h => h.elim)).rdr, Tail.nil _ _, HB9.out.alloc HB9.out.size _⟩
                  case measure => simp [intOf]; omega
                · go_wp2
                  go_ret
                  exact ⟨rfl, hBw⟩
end Go.Proofs.YbulkbpfuFmt
