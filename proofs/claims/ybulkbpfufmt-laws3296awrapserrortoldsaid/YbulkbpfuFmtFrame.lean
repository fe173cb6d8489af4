import Derived.Test.YbulkbpfuFmtStart
namespace Go.Proofs.YbulkbpfuFmt
open Go.ChangeShapes Go.WideShapes Go.ChangeAt Go.RowKit
set_option linter.unusedVariables false

theorem Buf.heapEq {w w' : World} {B F S : Nat} {stv : Value} {te : TypeId} {ev : Value} {bs rest : List Int} {base : Nat} (h : Buf w B F S stv te ev bs rest base) (e : w'.heap = w.heap) : Buf w' B F S stv te ev bs rest base := by
  have k : ∀ g : Nat, w'.heap[g]? = w.heap[g]? := fun g => by rw [e]
  obtain ⟨⟨r, q, i, bb, lb, lr, f, h1, h2, h3, h4⟩, own, lt, a, b, c⟩ := h
  refine ⟨⟨r, q, i, bb, lb, lr, f, h1.heap e, h2.of_block (k F), h3.heap e, h4⟩, ⟨own.1, ?_⟩, lt, a, b, c⟩
  rcases own.2 with hn | ⟨g, cap, cur, rfl, hb, hgg, rest⟩
  · exact .inl hn
  · exact .inr ⟨g, cap, cur, rfl, hb, by rw [k]; exact hgg, rest⟩

/-- The bytes as a frame bears them: each 26 doubled. -/
def esc : List Int → List Int
  | [] => []
  | b :: r => if b = 26 then 26 :: 26 :: esc r else b :: esc r

/-- The beast reader, the first k bytes of its frame being raw's. -/
structure RdrF (w : World) (R B F S : Nat) (stv : Value) (te : TypeId) (ev : Value) (bs rest : List Int) (base : Nat) (ins : Bool) (last : Int) (raw : List Int) (k : Nat) : Prop where
  buf : Buf w B F S stv te ev bs rest base
  row : ∃ f, w.rowIs R 82 25 f ∧ f 0 = .pointer (some ⟨B, 0, none⟩) ∧ f 1 = .bool ins ∧ f 2 = .int .u8 last ∧ f 3 = .int .u8 0 ∧ ∀ j, j < k → f (4 + j) = .int .u8 (raw.getD j 0)
  hFR : F < R

/-- The receive counter: the first k bytes, the greatest first, as the Go text reckons it. -/
def cnt (raw : List Int) : Nat → Int
  | 0 => 0
  | k + 1 => bits BinOp.or IntKind.u64 (IntKind.u64.wrap (cnt raw k * 256)) (IntKind.u64.wrap (raw.getD k 0))
theorem cnt_succ (raw : List Int) (k : Nat) : cnt raw (k + 1) = bits BinOp.or IntKind.u64 (IntKind.u64.wrap (cnt raw k * 256)) (IntKind.u64.wrap (raw.getD k 0)) := rfl

section
variable {w w' : World} {R B F S : Nat} {stv : Value} {te : TypeId} {ev : Value} {bs rest rest' : List Int} {base : Nat} {ins : Bool} {last : Int} {raw : List Int} {k : Nat}
theorem RdrF.rdr (h : RdrF w R B F S stv te ev bs rest base ins last raw k) : Rdr w R B F S stv te ev bs rest base ins last := by
  obtain ⟨b, ⟨f, hf, h0, h1, h2, h3, _⟩, hFR⟩ := h
  exact ⟨b, ⟨f, hf, h0, h1, h2, h3⟩, hFR⟩
theorem Rdr.rdrF (h : Rdr w R B F S stv te ev bs rest base ins last) (raw : List Int) : RdrF w R B F S stv te ev bs rest base ins last raw 0 := by
  obtain ⟨b, ⟨f, hf, h0, h1, h2, h3⟩, hFR⟩ := h
  exact ⟨b, ⟨f, hf, h0, h1, h2, h3, fun j hj => by omega⟩, hFR⟩
theorem RdrF.lift (h : RdrF w R B F S stv te ev bs rest base ins last raw k) (kp : Kp (Rds B F S) w w') (hb : Buf w' B F S stv te ev bs rest' base) : RdrF w' R B F S stv te ev bs rest' base ins last raw k := by
  obtain ⟨b, ⟨f, hf, h4⟩, hFR⟩ := h
  have := b.hSB
  have := b.hBF
  exact ⟨hb, ⟨f, kp.rowIs hf (by omega), h4⟩, hFR⟩
theorem RdrF.kept (h : RdrF w R B F S stv te ev bs rest base ins last raw k) {X : Nat → Prop} (kp : Kp X w w') (hX : ∀ i, X i → R < i) : RdrF w' R B F S stv te ev bs rest base ins last raw k := by
  obtain ⟨b, ⟨f, hf, h4⟩, hFR⟩ := h
  have e1 := b.hSB
  have e2 := b.hBF
  exact ⟨kp.buf b (fun x => by have := hX _ x; omega) (fun x => by have := hX _ x; omega) (fun x => by have := hX _ x; omega) (fun g hg x => by have := hX _ x; have := b.lt g hg; omega), ⟨f, kp.rowIs hf (fun x => by have := hX _ x; omega), h4⟩, hFR⟩
theorem RdrF.set (h : RdrF w R B F S stv te ev bs rest base ins last raw k) :
    (∀ i, RdrF (w.setCell ⟨R, 1, none⟩ (.bool i)) R B F S stv te ev bs rest base i last raw k) ∧ (∀ l, RdrF (w.setCell ⟨R, 2, none⟩ (.int .u8 l)) R B F S stv te ev bs rest base ins l raw k) ∧
    RdrF (w.setCell ⟨R, 4 + k, none⟩ (.int .u8 (raw.getD k 0))) R B F S stv te ev bs rest base ins last raw (k + 1) := by
  obtain ⟨b, ⟨f, hf, h0, h1, h2, h3, h4⟩, hFR⟩ := h
  have := b.hSB
  have := b.hBF
  have kp : ∀ o v, Kp (fun k => k = R) w (w.setCell ⟨R, o, none⟩ v) := fun o v => (Kp.refl (fun k => k = R) w).set (p := ⟨R, o, none⟩) (fun _ => rfl) v
  have hb : ∀ o v, Buf (w.setCell ⟨R, o, none⟩ v) B F S stv te ev bs rest base := fun o v => (kp o v).buf b (by omega) (by omega) (by omega) (fun g hg => by have := b.lt g hg; omega)
  refine ⟨fun i => ⟨hb _ _, ⟨_, hf.set 1 _, by simp [h0], by simp, by simp [h2], by simp [h3], fun j hj => ?_⟩, hFR⟩, fun l => ⟨hb _ _, ⟨_, hf.set 2 _, by simp [h0], by simp [h1], by simp, by simp [h3], fun j hj => ?_⟩, hFR⟩,
    ⟨hb _ _, ⟨_, hf.set (4 + k) _, by simp [h0, show ¬ 0 = 4 + k by omega], by simp [h1, show ¬ 1 = 4 + k by omega], by simp [h2, show ¬ 2 = 4 + k by omega], by simp [h3, show ¬ 3 = 4 + k by omega], fun j hj => ?_⟩, hFR⟩⟩
  · rw [if_neg (by omega)]; exact h4 j hj
  · rw [if_neg (by omega)]; exact h4 j hj
  · by_cases e : j = k
    · subst e; simp
    · rw [if_neg (by omega)]; exact h4 j (by omega)
theorem RdrF.cells (h : RdrF w R B F S stv te ev bs rest base ins last raw k) :
    w.cell? ⟨R, 0, none⟩ = some (.pointer (some ⟨B, 0, none⟩)) ∧ w.cell? ⟨R, 1, none⟩ = some (.bool ins) ∧ w.cell? ⟨R, 2, none⟩ = some (.int .u8 last) ∧ w.frozen? ⟨R, 1, none⟩ = false ∧ w.frozen? ⟨R, 2, none⟩ = false ∧
    (∀ j, j < k → j < 21 → w.cell? ⟨R, 4 + j, none⟩ = some (.int .u8 (raw.getD j 0))) ∧ (∀ j, j < 21 → ∃ v, w.cell? ⟨R, 4 + j, none⟩ = some v) ∧ (∀ j, w.frozen? ⟨R, j, none⟩ = false) := by
  obtain ⟨b, ⟨f, hf, h0, h1, h2, h3, h4⟩, hFR⟩ := h
  exact ⟨by rw [hf.cell (by omega), h0], by rw [hf.cell (by omega), h1], by rw [hf.cell (by omega), h2], hf.frozen 1, hf.frozen 2, fun j hj h21 => by rw [hf.cell (by omega), h4 j hj], fun j hj => ⟨_, hf.cell (by omega)⟩, fun j => hf.frozen j⟩
end

set_option maxRecDepth 100000 in
set_option maxHeartbeats 4000000 in
theorem readFrame_some (R B F S : Nat) (stv : Value) (te : TypeId) (ev : Value) (bs rest raw : List Int) (base : Nat) (ins : Bool) (last : Int) (t : Int) (n : Nat) (ht : TL t n) (w : World) (h : Rdr w R B F S stv te ev bs (esc raw ++ rest) base ins last) (hlen : raw.length = 7 + n) :
    Calls Ybaf.prog 19 #[.pointer (some ⟨R, 0, none⟩), .int .u8 t] w fun e w' => e = .returned (.tuple #[.agg #[.int .u8 t, .int .u64 (cnt raw 6), .int .u8 (raw.getD 6 0), .slice (some ⟨R, 11, none⟩) n 14], .bool true, .nilIface]) ∧ (∃ last', RdrF w' R B F S stv te ev bs rest base true last' raw (7 + n)) ∧ Kp (All R B F S) w w' := by
  have HH := hide h
  have HDL := hide (dl_any t n ht)
  have hn : n ≤ 14 := by rcases ht with ⟨_, rfl⟩ | ⟨_, rfl⟩ | ⟨_, rfl⟩ <;> omega
  have hn2 : 2 ≤ n := by rcases ht with ⟨_, rfl⟩ | ⟨_, rfl⟩ | ⟨_, rfl⟩ <;> omega
  clear h ht
  have hw : IntKind.i64.wrap (7 + (n : Int)) = 7 + (n : Int) := by rw [IntKind.wrap_i64]; omega
  have hb0 : (0 : Int) ≤ 7 + (n : Int) := by omega
  have hb1 : 7 + (n : Int) ≤ 21 := by omega
  have hb2 : (7 + (n : Int)).toNat = 7 + n := by omega
  go_enter Ybaf.func19, Ybaf.ntmps19
  go_wp2
  go_quiet ((go_at_call 27; exact Calls.quiet_of_same (HDL.out _)))
  go_wp2
  have HR0 := hide ((HH.out.rdrF raw).kept ((Kp.refl (fun _ => False) w).alloc (.cells #[.int .u8 0, .int .u64 0, .int .u8 0, .slice none 0 0] 40)) (fun _ h => h.elim))
  have hRw : R < w.heap.size := by obtain ⟨f, hf, _⟩ := HH.out.row; exact hf.lt
  clear hw hb0 hb1 hb2
  go_loopg [8, 9, 10, 23] (7 + n) (fun k s8 s9 s10 s23 wr => ∃ j : Nat, j + k = 7 + n ∧ s23 = .int .i64 j ∧ (∃ ins' last', RdrF wr R B F S stv te ev bs (esc (raw.drop j) ++ rest) base ins' last' raw j) ∧ Is wr w.heap.size 40 #[.int .u8 0, .int .u64 0, .int .u8 0, .slice none 0 0] ∧ Kp (All R B F S) w wr)
  case atStart => exact ⟨0, by omega, rfl, ⟨ins, last, ⟨HR0.out.buf.heapEq rfl, HR0.out.row, HR0.out.hFR⟩⟩, Is.new w 40 _, ((Kp.refl _ w).alloc _).drewN _⟩
  case round =>
    obtain ⟨j, hjk, rfl, ⟨ins', last', hR⟩, hA, hK⟩ := hrel
    by_cases hlt : j < 7 + n
    · obtain ⟨b, hb⟩ : ∃ b, raw.getD j 0 = b := ⟨_, rfl⟩
      have hdrop : raw.drop j = b :: raw.drop (j + 1) := by
        rw [List.drop_eq_getElem_cons (by omega)]
        congr 1
        rw [← hb]; simp [List.getD, show j < raw.length by omega]
      rw [hdrop] at hR
      have d0 := hR.cells.1
      have HKw := hide hK
      have HA := hide hA
      have HB := hide hb
      have HJK := hide hjk
      clear hK hA hdrop hb hjk
      by_cases h26 : b = 26
      · subst h26
        have HR : Hid (RdrF wr R B F S stv te ev bs (26 :: 26 :: (esc (raw.drop (j + 1)) ++ rest)) base ins' last' raw j) := hide (by simpa [esc] using hR)
        clear hR
        go_wp2_with fail
        refine (readByte_some (by exact HR.out.buf)).mono ?_
        rintro e w1 ⟨rfl, hb1, hk1⟩
        have HR1 := hide (HR.out.lift hk1 hb1)
        have e0 := HR1.out.cells.1
        have HK1 := hide (HKw.out.trans (hk1.mono (fun k h => Or.inr h)))
        have HA1 := hide (hk1.is HA.out (by have := HR.out.hFR; have := HR.out.buf.hSB; have := HR.out.buf.hBF; omega))
        clear hb1 hk1 d0
        go_wp2_with fail
        refine (readByte_some (by exact HR1.out.buf)).mono ?_
        rintro e w2 ⟨rfl, hb2, hk2⟩
        have HR2 := hide (HR1.out.lift hk2 hb2)
        obtain ⟨-, -, i2, -, g2, -, hex, hfz⟩ := HR2.out.cells
        obtain ⟨v4, i4⟩ := hex j (by omega)
        have g4 := hfz (4 + j)
        have HK2 := hide (HK1.out.trans (hk2.mono (fun k h => Or.inr h)))
        have HA2 := hide (hk2.is HA1.out (by have := HR.out.hFR; have := HR.out.buf.hSB; have := HR.out.buf.hBF; omega))
        clear hb2 hk2 e0 hex hfz
        go_wp2
        go_roundg (7 + n - (j + 1))
        case measure => have := HJK.out; omega
        case rel =>
          have hR3 := (HR2.out.set.2.1 26).set.2.2
          rw [HB.out] at hR3
          exact ⟨j + 1, by omega, by go_num, ⟨ins', 26, hR3⟩, (HA2.out.other (by omega) _ _).other (by omega) _ _, (HK2.out.set (p := ⟨R, 2, none⟩) (fun _ => Or.inl rfl) _).set (p := ⟨R, 4 + j, none⟩) (fun _ => Or.inl rfl) _⟩
      · have hne : (b == 26) = false := beq_eq_false_iff_ne.2 h26
        have HR : Hid (RdrF wr R B F S stv te ev bs (b :: (esc (raw.drop (j + 1)) ++ rest)) base ins' last' raw j) := hide (by simpa [esc, h26] using hR)
        clear hR h26
        go_wp2_with fail
        refine (readByte_some (by exact HR.out.buf)).mono ?_
        rintro e w2 ⟨rfl, hb2, hk2⟩
        have HR2 := hide (HR.out.lift hk2 hb2)
        obtain ⟨-, -, i2, -, g2, -, hex, hfz⟩ := HR2.out.cells
        obtain ⟨v4, i4⟩ := hex j (by omega)
        have g4 := hfz (4 + j)
        have HK2 := hide (HKw.out.trans (hk2.mono (fun k h => Or.inr h)))
        have HA2 := hide (hk2.is HA.out (by have := HR.out.hFR; have := HR.out.buf.hSB; have := HR.out.buf.hBF; omega))
        clear hb2 hk2 d0 hex hfz
        go_wp2
        go_roundg (7 + n - (j + 1))
        case measure => have := HJK.out; omega
        case rel =>
          have hR3 := (HR2.out.set.2.1 b).set.2.2
          rw [HB.out] at hR3
          exact ⟨j + 1, by omega, by go_num, ⟨ins', b, hR3⟩, (HA2.out.other (by omega) _ _).other (by omega) _ _, (HK2.out.set (p := ⟨R, 2, none⟩) (fun _ => Or.inl rfl) _).set (p := ⟨R, 4 + j, none⟩) (fun _ => Or.inl rfl) _⟩
    · obtain rfl : j = 7 + n := by omega
      have HR : Hid (RdrF wr R B F S stv te ev bs rest base ins' last' raw (7 + n)) := by
        have := hR
        rw [List.drop_eq_nil_of_le (by omega)] at this
        exact this
      obtain ⟨-, d1, -, g1, -, hfr, -, -⟩ := HR.out.cells
      have HKw := hide hK
      have HA := hide hA
      clear hR hK hA
      go_wp2
      have h6 : wr.cell? ⟨R, 10, none⟩ = some (.int .u8 (raw.getD 6 0)) := hfr 6 (by omega) (by omega)
      have a0 := HA.out.cell 0
      have a1 := HA.out.cell 1
      have a2 := HA.out.cell 2
      have a3 := HA.out.cell 3
      have q0 := HA.out.frozen 0
      have q1 := HA.out.frozen 1
      have q2 := HA.out.frozen 2
      have q3 := HA.out.frozen 3
      simp at a0 a1 a2 a3
      have hne : w.heap.size ≠ R := by omega
      have HFR := hide hfr
      clear hfr
      go_loop [11, 13, 88] (fun c s13 i => ∃ k : Nat, k ≤ 6 ∧ i = .int .i64 k ∧ c = .int .u64 (cnt raw k)) (fun _ _ i => 6 - (intOf i).toNat)
      case atStart => exact ⟨0, by omega, rfl, rfl⟩
      case round =>
        obtain ⟨k, hk6, rfl, rfl⟩ := hrel
        by_cases hk : k < 6
        · have hck := HFR.out k (by omega) (by omega)
          go_wp2
          go_round
          case rel => exact ⟨k + 1, by omega, by go_num, by rw [cnt_succ]; rfl⟩
          case measure => simp [intOf]; omega
        · obtain rfl : k = 6 := by omega
          go_wp2
          go_region
          go_wp2
          refine bodyPost_ret (v := .tuple #[.agg #[.int .u8 t, .int .u64 (cnt raw 6), .int .u8 (raw.getD 6 0), .slice (some ⟨R, 11, none⟩) n 14], .bool true, .nilIface]) (by simp [results, Ybaf.results19, go_sem, a0, a1, a2, a3]) rfl ⟨rfl, ⟨last', ?_⟩, ?_⟩
          · refine RdrF.kept (X := fun k => k = w.heap.size) (HR.out.set.1 true) ?_ (fun i h => by omega)
            exact (((((Kp.refl (fun k => k = w.heap.size) _).set (p := ⟨w.heap.size, 0, none⟩) (fun _ => rfl) _).set (p := ⟨w.heap.size, 1, none⟩) (fun _ => rfl) _).set (p := ⟨w.heap.size, 2, none⟩) (fun _ => rfl) _).set (p := ⟨w.heap.size, 3, none⟩) (fun _ => rfl) _).drew
          · exact (((((HKw.out.set (p := ⟨R, 1, none⟩) (fun _ => Or.inl rfl) _).set (p := ⟨w.heap.size, 0, none⟩) (fun h => absurd h (Nat.lt_irrefl _)) _).set (p := ⟨w.heap.size, 1, none⟩) (fun h => absurd h (Nat.lt_irrefl _)) _).set (p := ⟨w.heap.size, 2, none⟩) (fun h => absurd h (Nat.lt_irrefl _)) _).set (p := ⟨w.heap.size, 3, none⟩) (fun h => absurd h (Nat.lt_irrefl _)) _).drew
end Go.Proofs.YbulkbpfuFmt
