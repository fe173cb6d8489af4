import Derived.Test.YbulkbpfuFmtBytes
namespace Go.Proofs.YbulkbpfuFmt
open Go.ChangeShapes Go.WideShapes Go.ChangeAt Go.RowKit
set_option linter.unusedVariables false

/-- A frame's type and the number of its data bytes. -/
def TL (t : Int) (n : Nat) : Prop := (t = 49 ∧ n = 2) ∨ (t = 50 ∧ n = 7) ∨ (t = 51 ∧ n = 14)

theorem dl_any (t : Int) (n : Nat) (h : TL t n) (w : World) : Calls Ybaf.prog 27 #[.int .u8 t] w fun e w' => e = .returned (.int .i64 n) ∧ w' = w := by
  rcases h with ⟨rfl, rfl⟩ | ⟨rfl, rfl⟩ | ⟨rfl, rfl⟩
  all_goals
    go_enter Ybaf.func27, Ybaf.ntmps27
    go_wp2
    go_ret
    exact ⟨rfl, rfl⟩

/-- THE BEAST READER at R over the reader underneath. -/
structure Rdr (w : World) (R B F S : Nat) (stv : Value) (te : TypeId) (ev : Value) (bs rest : List Int) (base : Nat) (ins : Bool) (last : Int) : Prop where
  buf : Buf w B F S stv te ev bs rest base
  row : ∃ f, w.rowIs R 82 25 f ∧ f 0 = .pointer (some ⟨B, 0, none⟩) ∧ f 1 = .bool ins ∧ f 2 = .int .u8 last ∧ f 3 = .int .u8 0
  hFR : F < R

abbrev All (R B F S : Nat) : Nat → Prop := fun k => k = R ∨ Rds B F S k

theorem Rdr.lift {w w' : World} {R B F S : Nat} {stv : Value} {te : TypeId} {ev : Value} {bs rest rest' : List Int} {base : Nat} {ins : Bool} {last : Int} (h : Rdr w R B F S stv te ev bs rest base ins last) (k : Kp (Rds B F S) w w') (hb : Buf w' B F S stv te ev bs rest' base) : Rdr w' R B F S stv te ev bs rest' base ins last := by
  obtain ⟨b, ⟨f, hf, h4⟩, hFR⟩ := h
  have := b.hSB
  have := b.hBF
  exact ⟨hb, ⟨f, k.rowIs hf (by omega), h4⟩, hFR⟩

/-- A store into R's field 1 or 2. -/
theorem Rdr.store {w : World} {R B F S : Nat} {stv : Value} {te : TypeId} {ev : Value} {bs rest : List Int} {base : Nat} {ins : Bool} {last : Int} (h : Rdr w R B F S stv te ev bs rest base ins last) :
    (∀ ins', Rdr (w.setCell ⟨R, 1, none⟩ (.bool ins')) R B F S stv te ev bs rest base ins' last) ∧ (∀ l, Rdr (w.setCell ⟨R, 2, none⟩ (.int .u8 l)) R B F S stv te ev bs rest base ins l) := by
  obtain ⟨b, ⟨f, hf, h0, h1, h2, h3⟩, hFR⟩ := h
  have := b.hSB
  have := b.hBF
  have k : ∀ o v, Kp (fun k => k = R) w (w.setCell ⟨R, o, none⟩ v) := fun o v => (Kp.refl (fun k => k = R) w).set (p := ⟨R, o, none⟩) (fun _ => rfl) v
  have hb : ∀ o v, Buf (w.setCell ⟨R, o, none⟩ v) B F S stv te ev bs rest base := fun o v => (k o v).buf b (by omega) (by omega) (by omega) (fun g hg => by have := b.lt g hg; omega)
  exact ⟨fun i => ⟨hb _ _, ⟨_, hf.set 1 _, by simp [h0], by simp, by simp [h2], by simp [h3]⟩, hFR⟩, fun l => ⟨hb _ _, ⟨_, hf.set 2 _, by simp [h0], by simp [h1], by simp, by simp [h3]⟩, hFR⟩⟩

/-- What a walk reads of R. -/
theorem Rdr.cells {w : World} {R B F S : Nat} {stv : Value} {te : TypeId} {ev : Value} {bs rest : List Int} {base : Nat} {ins : Bool} {last : Int} (h : Rdr w R B F S stv te ev bs rest base ins last) :
    w.cell? ⟨R, 0, none⟩ = some (.pointer (some ⟨B, 0, none⟩)) ∧ w.cell? ⟨R, 1, none⟩ = some (.bool ins) ∧ w.cell? ⟨R, 2, none⟩ = some (.int .u8 last) ∧ w.cell? ⟨R, 3, none⟩ = some (.int .u8 0) ∧ w.frozen? ⟨R, 1, none⟩ = false ∧ w.frozen? ⟨R, 2, none⟩ = false := by
  obtain ⟨b, ⟨f, hf, h0, h1, h2, h3⟩, hFR⟩ := h
  exact ⟨by rw [hf.cell (by omega), h0], by rw [hf.cell (by omega), h1], by rw [hf.cell (by omega), h2], by rw [hf.cell (by omega), h3], hf.frozen 1, hf.frozen 2⟩

set_option maxRecDepth 100000 in
set_option maxHeartbeats 4000000 in
/-- findStart behind junk: it comes to the frame's type. -/
theorem findStart_some (R B F S : Nat) (stv : Value) (te : TypeId) (ev : Value) (bs rest junk : List Int) (base : Nat) (ins : Bool) (last : Int) (t : Int) (n : Nat) (ht : TL t n) (w : World) (h : Rdr w R B F S stv te ev bs (junk ++ 26 :: t :: rest) base ins last) (hj : ∀ x ∈ junk, x ≠ 26) (hs : ins = true ∨ last ≠ 26) :
    Calls Ybaf.prog 17 #[.pointer (some ⟨R, 0, none⟩)] w fun e w' => e = .returned (.tuple #[.int .u8 t, .nilIface]) ∧ (∃ ins', Rdr w' R B F S stv te ev bs rest base ins' t) ∧ Kp (All R B F S) w w' := by
  have c3 := h.cells.2.2.2.1
  have HH := hide h
  have HJ := hide hj
  have HS := hide hs
  clear h hj hs
  go_enter Ybaf.func17, Ybaf.ntmps17
  go_wp2
  go_loopg [5, 6, 7] junk.length (fun k s5 s6 s7 wr => ∃ (js : List Int) (ins' : Bool) (last' : Int), js.length = k ∧ Rdr wr R B F S stv te ev bs (js ++ 26 :: t :: rest) base ins' last' ∧ (∀ x ∈ js, x ≠ 26) ∧ (ins' = true ∨ last' ≠ 26) ∧ Kp (All R B F S) w wr)
  case atStart => exact ⟨junk, ins, last, rfl, HH.out, HJ.out, HS.out, Kp.refl _ _⟩
  case round =>
    obtain ⟨js, ins', last', hk, hR, hj, hs, hK⟩ := hrel
    have d0 := hR.cells.1
    cases js with
    | nil =>
      have hl : ins' = true ∨ (ins' = false ∧ (last' == 26) = false) := by
        rcases hs with h | h
        · exact .inl h
        · cases ins'
          · exact .inr ⟨rfl, beq_eq_false_iff_ne.2 h⟩
          · exact .inl rfl
      have HR := hide hR
      have HKw := hide hK
      clear hR hj hK hs
      have HDL := hide (dl_any t n ht)
      have hn0 : 0 < n := by rcases ht with ⟨_, rfl⟩ | ⟨_, rfl⟩ | ⟨_, rfl⟩ <;> omega
      clear ht
      rcases hl with rfl | ⟨rfl, hl⟩
      all_goals
        go_wp2_with fail
        refine (readByte_some (by exact HR.out.buf)).mono ?_
        rintro e w1 ⟨rfl, hb1, hk1⟩
        have hR1 := HR.out.lift hk1 hb1
        obtain ⟨e0, e1, e2, e3, g1, g2⟩ := hR1.cells
        have HR1 := hide hR1
        have HK1 := hide (HKw.out.trans (hk1.mono (fun k h => Or.inr h)))
        clear hR1 hb1 hk1 d0
        go_wp2_with fail
        refine (readByte_some (by exact HR1.out.buf)).mono ?_
        rintro e w2 ⟨rfl, hb2, hk2⟩
        have hR2 := HR1.out.lift hk2 hb2
        obtain ⟨-, -, i2, -, -, j2⟩ := hR2.cells
        have HR2 := hide hR2
        have HK2 := hide (HK1.out.trans (hk2.mono (fun k h => Or.inr h)))
        clear hR2 hb2 hk2 e0 e1 e2 e3 g1 g2
        go_wp2_with fail
        refine (HDL.out _).mono ?_
        rintro e w3 ⟨rfl, hw3⟩
        subst hw3
        go_wp2
        go_ret2
        exact ⟨rfl, ⟨_, HR2.out.store.2 t⟩, HK2.out.set (p := ⟨R, 2, none⟩) (fun _ => Or.inl rfl) _⟩
    | cons j js =>
      have hne : (j != 26) = true := by rw [bne_iff_ne]; exact hj j (by simp)
      have HR := hide hR
      have HKw := hide hK
      have HJS := hide hj
      have HLK := hide hk
      clear hR hj hK hs hk
      go_wp2_with fail
      refine (readByte_some (by exact HR.out.buf)).mono ?_
      rintro e w1 ⟨rfl, hb1, hk1⟩
      have hR1 := HR.out.lift hk1 hb1
      obtain ⟨e0, e1, e2, e3, g1, g2⟩ := hR1.cells
      have HR1 := hide hR1
      have HK1 := hide (HKw.out.trans (hk1.mono (fun k h => Or.inr h)))
      clear hR1 hb1 hk1 d0
      go_wp2
      go_roundg js.length
      case measure => have := HLK.out; simp at this; omega
      case rel => exact ⟨js, false, j, rfl, (HR1.out.store.1 false).store.2 j, fun x hx => HJS.out x (List.mem_cons_of_mem _ hx), .inr (HJS.out j (by simp)), (HK1.out.set (p := ⟨R, 1, none⟩) (fun _ => Or.inl rfl) _).set (p := ⟨R, 2, none⟩) (fun _ => Or.inl rfl) _⟩

theorem keep_end {tl : List Int} {p : Prop} {j : Int} (h : tl = [] ∨ (tl = [26] ∧ p)) (hj : j ≠ 26) : tl = [] ∨ (tl = [26] ∧ (false = true ∨ j ≠ 26)) := by
  rcases h with h | h
  · exact .inl h
  · exact .inr ⟨h.1, .inr hj⟩

set_option maxRecDepth 100000 in
set_option maxHeartbeats 4000000 in
/-- findStart behind junk at the stream's end, or where the end cuts behind a frame's first byte. -/
theorem findStart_none (R B F S : Nat) (stv : Value) (te : TypeId) (ev : Value) (bs junk tl : List Int) (base : Nat) (ins : Bool) (last : Int) (w : World) (h : Rdr w R B F S stv te ev bs (junk ++ tl) base ins last) (hj : ∀ x ∈ junk, x ≠ 26) (hs : tl = [] ∨ (tl = [26] ∧ (ins = true ∨ last ≠ 26))) :
    Calls Ybaf.prog 17 #[.pointer (some ⟨R, 0, none⟩)] w fun e w' => e = .returned (.tuple #[.int .u8 0, .iface te ev]) ∧ (∃ ins' last', Rdr w' R B F S stv te ev bs [] base ins' last') ∧ Kp (All R B F S) w w' := by
  have c3 := h.cells.2.2.2.1
  have HH := hide h
  have HJ := hide hj
  have HS := hide hs
  clear h hj hs
  go_enter Ybaf.func17, Ybaf.ntmps17
  go_wp2
  go_loopg [5, 6, 7] junk.length (fun k s5 s6 s7 wr => ∃ (js : List Int) (ins' : Bool) (last' : Int), js.length = k ∧ Rdr wr R B F S stv te ev bs (js ++ tl) base ins' last' ∧ (∀ x ∈ js, x ≠ 26) ∧ (tl = [] ∨ (tl = [26] ∧ (ins' = true ∨ last' ≠ 26))) ∧ Kp (All R B F S) w wr)
  case atStart => exact ⟨junk, ins, last, rfl, HH.out, HJ.out, HS.out, Kp.refl _ _⟩
  case round =>
    obtain ⟨js, ins', last', hk, hR, hj, hs, hK⟩ := hrel
    have d0 := hR.cells.1
    cases js with
    | nil =>
      rcases hs with rfl | ⟨rfl, hs⟩
      · have HR := hide hR
        have HKw := hide hK
        clear hR hj hK
        go_wp2_with fail
        refine (readByte_none (by exact HR.out.buf)).mono ?_
        rintro e w1 ⟨rfl, hb1, hk1⟩
        have HR1 := hide (HR.out.lift hk1 hb1)
        have HK1 := hide (HKw.out.trans (hk1.mono (fun k h => Or.inr h)))
        clear hb1 hk1 d0
        go_wp2
        go_ret2
        exact ⟨rfl, ⟨_, _, HR1.out⟩, HK1.out⟩
      · have hl : ins' = true ∨ (ins' = false ∧ (last' == 26) = false) := by
          rcases hs with h | h
          · exact .inl h
          · cases ins'
            · exact .inr ⟨rfl, beq_eq_false_iff_ne.2 h⟩
            · exact .inl rfl
        have HR := hide hR
        have HKw := hide hK
        clear hR hj hK hs
        rcases hl with rfl | ⟨rfl, hl⟩
        all_goals
          go_wp2_with fail
          refine (readByte_some (by exact HR.out.buf)).mono ?_
          rintro e w1 ⟨rfl, hb1, hk1⟩
          have hR1 := HR.out.lift hk1 hb1
          obtain ⟨e0, e1, e2, e3, g1, g2⟩ := hR1.cells
          have HR1 := hide hR1
          have HK1 := hide (HKw.out.trans (hk1.mono (fun k h => Or.inr h)))
          clear hR1 hb1 hk1 d0
          go_wp2_with fail
          refine (readByte_none (by exact HR1.out.buf)).mono ?_
          rintro e w2 ⟨rfl, hb2, hk2⟩
          have HR2 := hide (HR1.out.lift hk2 hb2)
          have HK2 := hide (HK1.out.trans (hk2.mono (fun k h => Or.inr h)))
          clear hb2 hk2 e0 e1 e2 e3 g1 g2
          go_wp2
          go_ret2
          exact ⟨rfl, ⟨_, _, HR2.out⟩, HK2.out⟩
    | cons j js =>
      have hne : (j != 26) = true := by rw [bne_iff_ne]; exact hj j (by simp)
      have HR := hide hR
      have HKw := hide hK
      have HJS := hide hj
      have HLK := hide hk
      have HSS := hide hs
      clear hR hj hK hs hk
      go_wp2_with fail
      refine (readByte_some (by exact HR.out.buf)).mono ?_
      rintro e w1 ⟨rfl, hb1, hk1⟩
      have hR1 := HR.out.lift hk1 hb1
      obtain ⟨e0, e1, e2, e3, g1, g2⟩ := hR1.cells
      have HR1 := hide hR1
      have HK1 := hide (HKw.out.trans (hk1.mono (fun k h => Or.inr h)))
      clear hR1 hb1 hk1 d0
      go_wp2
      go_roundg js.length
      case measure => have := HLK.out; simp at this; omega
      case rel => exact ⟨js, false, j, rfl, (HR1.out.store.1 false).store.2 j, fun x hx => HJS.out x (List.mem_cons_of_mem _ hx), keep_end HSS.out (HJS.out j (by simp)), (HK1.out.set (p := ⟨R, 1, none⟩) (fun _ => Or.inl rfl) _).set (p := ⟨R, 2, none⟩) (fun _ => Or.inl rfl) _⟩
end Go.Proofs.YbulkbpfuFmt
