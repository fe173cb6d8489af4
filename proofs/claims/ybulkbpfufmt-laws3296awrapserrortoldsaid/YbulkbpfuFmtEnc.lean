import Derived.Test.YbulkbpfuFmtRaw
import Derived.Maps.AppendAt
namespace Go.Proofs.YbulkbpfuFmt
open Go.ChangeShapes Go.WideShapes Go.ChangeAt Go.RowKit
set_option linter.unusedVariables false

theorem esc_snoc : ∀ (l : List Int) (b : Int), esc (l ++ [b]) = esc l ++ (if b = 26 then [26, 26] else [b])
  | [], b => by simp only [List.nil_append, esc]
  | x :: l, b => by
    simp only [List.cons_append, esc, esc_snoc l b]
    split <;> simp
theorem esc_len : ∀ (l : List Int), (esc l).length ≤ 2 * l.length
  | [] => by simp [esc]
  | x :: l => by
    have := esc_len l
    simp only [esc]
    split <;> simp <;> omega

/-- out, a slice of bytes of the call's own (nil or not), with what it holds; it does not lie in block g. -/
structure Out (w : World) (base g : Nat) (v : Value) (l : List Int) : Prop where
  own : w.ownsRow base 5 1 v l.length (l.map (Value.int .u8))
  ne : v.ownBlock ≠ some g

theorem Kp.grown {X : Nat → Prop} {a b c : World} {row : Option Nat} (h : Kp X a b) (hg : b.grownBy c row) (hr : ∀ k, row = some k → k < a.heap.size → X k) : Kp X a c :=
  ⟨hg.os.trans h.os, hg.tape.trans h.tape, hg.output.trans h.output, Nat.le_trans h.size hg.size, fun k hk hn => (hg.block k (Nat.lt_of_lt_of_le hk h.size) (fun e => hn (hr k e.symm hk))).trans (h.block k hk hn)⟩

/-- What one append leaves, as the next step wants it. -/
theorem out_next {w0 w w2 : World} {base g n : Nat} {X : Nat → Prop} {v v' : Value} {l news : List Int} {c : Array Value} (hg : g < w.heap.size) (hO : Out w base g v l) (hX : ∀ k, v.ownBlock = some k → k < w0.heap.size → X k) (hK : Kp X w0 w)
    (h1 : w2.ownsRow base 5 1 v' (l.length + n) (l.map (Value.int .u8) ++ news.map (Value.int .u8))) (hn : n = news.length) (h2 : (w.alloc (.cells c 5)).grownBy w2 v.ownBlock) (h4 : v'.ownBlock = v.ownBlock ∨ v'.ownBlock = some (w.heap.size + 1)) :
    Out w2 base g v' (l ++ news) ∧ (∀ k, v'.ownBlock = some k → k < w0.heap.size → X k) ∧ Kp X w0 w2 := by
  subst hn
  refine ⟨⟨by simpa using h1, ?_⟩, ?_, (hK.alloc _).grown h2 hX⟩
  · rcases h4 with h | h
    · rw [h]; exact hO.ne
    · rw [h]; intro e; cases e; omega
  · intro k hk hlt
    rcases h4 with h | h
    · rw [h] at hk; exact hX k hk hlt
    · rw [h] at hk; cases hk; have := hK.size; omega

set_option maxRecDepth 100000 in
set_option maxHeartbeats 4000000 in
theorem aenc_any (base g m : Nat) (v : Value) (l raw : List Int) (t : Int) (w : World) (hO : Out w base g v l) (hlen : l.length ≤ 100000) (hm : raw.length = m) (hm2 : m ≤ 21) (hm0 : 0 < m) (hg : g < w.heap.size) (hb : base ≤ w.heap.size) (hc : ∀ j, j < m → w.cell? ⟨g, j, none⟩ = some (.int .u8 (raw.getD j 0))) :
    Calls Ybaf.prog 7 #[v, .int .u8 t, .slice (some ⟨g, 0, none⟩) m m] w fun e w' => ∃ v', e = .returned v' ∧ Out w' base g v' (l ++ 26 :: t :: esc raw) ∧ (∀ k, v'.ownBlock = some k → v.ownBlock = some k ∨ w.heap.size ≤ k) ∧ Kp (fun k => v.ownBlock = some k) w w' := by
  obtain ⟨i0, hi, hz0, hz1, hz2⟩ := info_parts infoB
  have HO := hide hO
  have HC := hide hc
  clear hO hc
  obtain ⟨ao, cap, hv⟩ := own_slice HO.out.own
  subst hv
  go_enter Ybaf.func7, Ybaf.ntmps7
  go_wp2_with (at_builtin; refine wpList_append_own_at _ rfl _ _ 22 rfl base 5 i0 _ 1 1 Ybaf.underlying22 hi hz0 hz1 hz2 rfl (by decide) _ l.length _ rfl (HO.out.own.alloc _) ⟨w.heap.size, 0, none⟩ 2 2 [.int .u8 26, .int .u8 t] rfl rfl ?c1 ?c2 ?c3 ?c4 ?c5 ?_)
  case c1 =>
    intro j u hj
    match j, hj with
    | 0, hj => simp at hj; subst hj; simp [Addr.add]
    | 1, hj => simp at hj; subst hj; simp [Addr.add]
  case c2 => intro u hu; simp at hu; rcases hu with rfl | rfl <;> rfl
  case c3 => unfold maxLen; omega
  case c4 => omega
  case c5 => simp; omega
  intro v1 w1 o1 g1 _ a1
  obtain ⟨hO1, hX1, hK1⟩ := out_next (w0 := w) (news := [26, t]) (X := fun k => (Value.slice ao l.length cap).ownBlock = some k) hg HO.out (fun k h _ => h) (Kp.refl _ w) o1 rfl g1 a1
  have HO1 := hide hO1
  have HX1 := hide hX1
  have HK1 := hide hK1
  clear hO1 hX1 hK1 o1 g1 a1
  go_wp2
  go_loopw [0, 8, 15] (fun out s8 i wr => ∃ (k : Nat) (l' : List Int), k ≤ m ∧ i = .int .i64 k ∧ l' = l ++ 26 :: t :: esc (raw.take k) ∧ Out wr base g out l' ∧ (∀ b, out.ownBlock = some b → b < w.heap.size → (Value.slice ao l.length cap).ownBlock = some b) ∧ Kp (fun k => (Value.slice ao l.length cap).ownBlock = some k) w wr) (fun _ _ i _ => m - (intOf i).toNat)
  case atStart => exact ⟨0, _, by omega, rfl, by simp [esc], HO1.out, HX1.out, HK1.out⟩
  case round =>
    obtain ⟨k, l', hk, rfl, hl', hOr, hXr, hKr⟩ := hrel
    by_cases hlt : k < m
    · obtain ⟨b, hb'⟩ : ∃ b, raw.getD k 0 = b := ⟨_, rfl⟩
      have hcb : wr.cell? ⟨g, k, none⟩ = some (.int .u8 b) := by rw [← hb']; exact hKr.cell (HC.out k hlt) HO.out.ne
      have htake : raw.take (k + 1) = raw.take k ++ [b] := by
        rw [List.take_succ_eq_append_getElem (by omega), ← hb']; simp [List.getD, show k < raw.length by omega]
      have hesc := esc_snoc (raw.take k) b
      rw [← htake] at hesc
      have hll : l'.length ≤ 100044 := by
        have h1 := esc_len (raw.take k)
        have h2 := List.length_take_le k raw
        rw [hl']; simp; omega
      have hgr : g < wr.heap.size := Nat.lt_of_lt_of_le hg hKr.size
      have hbr : base ≤ wr.heap.size := Nat.le_trans hb hKr.size
      obtain ⟨ao2, cap2, rfl⟩ := own_slice hOr.own
      have HL := hide hl'
      have HE := hide hesc
      have HOr := hide hOr
      have HXr := hide hXr
      have HKr := hide hKr
      clear hl' hesc hOr hXr hKr htake hb' HO1 HX1 HK1
      by_cases h26 : b = 26
      · subst h26
        go_wp2_with (at_builtin; refine wpList_append_own_at _ rfl (.tmp 19) (.tmp 21) 22 rfl base 5 i0 _ 1 1 Ybaf.underlying22 hi hz0 hz1 hz2 rfl (by decide) _ l'.length _ rfl (HOr.out.own.alloc _) ⟨wr.heap.size, 0, none⟩ 1 1 [.int .u8 26] rfl rfl (one_cell _ _) (by intro u hu; simp at hu; subst hu; rfl) (by unfold maxLen; omega) (by omega) (by simp; omega) ?_)
        intro v2 w2 o2 g2 _ a2
        obtain ⟨hO2, hX2, hK2⟩ := out_next (news := [26]) hgr HOr.out HXr.out HKr.out o2 rfl g2 a2
        obtain ⟨ao3, cap3, hv3⟩ := own_slice hO2.own
        rw [hv3]
        rw [hv3] at hO2 hX2
        have HO2 := hide hO2
        have HX2 := hide hX2
        have HK2 := hide hK2
        have hg2 : g < w2.heap.size := Nat.lt_of_lt_of_le hg hK2.size
        have hb2 : base ≤ w2.heap.size := Nat.le_trans hb hK2.size
        clear hO2 hX2 hK2 hv3 o2 g2 a2 HOr HXr HKr
        go_wp2_with (at_builtin; refine wpList_append_own_at _ rfl (.tmp 25) (.tmp 26) 22 rfl base 5 i0 _ 1 1 Ybaf.underlying22 hi hz0 hz1 hz2 rfl (by decide) _ (l' ++ [26]).length _ rfl (HO2.out.own.alloc _) ⟨w2.heap.size, 0, none⟩ 1 1 [.int .u8 26] rfl rfl (one_cell _ _) (by intro u hu; simp at hu; subst hu; rfl) (by unfold maxLen; simp; omega) (by simp; omega) (by simp; omega) ?_)
        intro v3 w3 o3 g3 _ a3
        obtain ⟨hO3, hX3, hK3⟩ := out_next (v' := v3) (w2 := w3) (news := [26]) (n := 1) (c := #[.int .u8 26]) hg2 HO2.out HX2.out HK2.out (by simpa using o3) rfl (by simpa using g3) (by simpa using a3)
        have HO3 := hide hO3
        have HX3 := hide hX3
        have HK3 := hide hK3
        clear hO3 hX3 hK3 o3 g3 a3 HO2 HX2 HK2
        go_wp2
        go_roundw
        case rel => exact ⟨k + 1, l' ++ [26] ++ [26], by omega, by go_num, by rw [HE.out, HL.out]; simp, HO3.out, HX3.out, HK3.out⟩
        case measure => simp [intOf]; omega
      · have hne : (b == 26) = false := beq_eq_false_iff_ne.2 h26
        have H26 := hide h26
        clear h26
        go_wp2_with (at_builtin; refine wpList_append_own_at _ rfl (.tmp 19) (.tmp 21) 22 rfl base 5 i0 _ 1 1 Ybaf.underlying22 hi hz0 hz1 hz2 rfl (by decide) _ l'.length _ rfl (HOr.out.own.alloc _) ⟨wr.heap.size, 0, none⟩ 1 1 [.int .u8 b] rfl rfl (one_cell _ _) (by intro u hu; simp at hu; subst hu; rfl) (by unfold maxLen; omega) (by omega) (by simp; omega) ?_)
        intro v2 w2 o2 g2 _ a2
        obtain ⟨hO2, hX2, hK2⟩ := out_next (news := [b]) hgr HOr.out HXr.out HKr.out o2 rfl g2 a2
        have HO2 := hide hO2
        have HX2 := hide hX2
        have HK2 := hide hK2
        clear hO2 hX2 hK2 o2 g2 a2 HOr HXr HKr
        go_wp2
        go_roundw
        case rel => exact ⟨k + 1, l' ++ [b], by omega, by go_num, by rw [HE.out, HL.out, if_neg H26.out]; simp, HO2.out, HX2.out, HK2.out⟩
        case measure => simp [intOf]; omega
    · obtain rfl : k = m := by omega
      rw [List.take_of_length_le (by omega)] at hl'
      subst hl'
      go_wp2
      go_ret
      exact ⟨_, rfl, hOr, fun b hb => by
        by_cases h : b < w.heap.size
        · exact .inl (hXr b hb h)
        · exact .inr (by omega), hKr⟩
end Go.Proofs.YbulkbpfuFmt
