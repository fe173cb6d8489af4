import Derived.Test.YbulkbpfuStep
import Derived.Laws.StructEq
namespace Go.Proofs.Ybulkbpfu
open Go.ChangeShapes Go.WideShapes Go.ChangeAt Go.RowKit
set_option linter.unusedVariables false

def ints (l : List Int) : List Value := l.map (.int .i64 ·)

/-- What holds at the head of the law's round. -/
structure Inv (w wr : World) (B T base : Nat) (L : Int) (mp : Value) (σ : St) (v u : Value) : Prop where
  good : Good L σ
  clock : Clock wr B T base L mp σ v
  row : Rows? wr base 2 1 u σ.l.length (ints σ.l)
  kp : Kp (fun k => base ≤ k) w wr

theorem wr64 {n : Int} (h : n.natAbs < 2 ^ 40) : wrap64 n = n ∧ IntKind.i64.wrap n = n := by
  have : wrap64 n = n := by unfold wrap64; omega
  exact ⟨this, (IntWalk.i64_left n).trans this⟩
theorem rows_new {w : World} {base : Nat} (hb : base ≤ w.heap.size) : Rows? (w.alloc (.cells #[.int .i64 0] 2)) base 2 1 (.slice (some ⟨w.heap.size, 0, none⟩) 1 1) 1 (ints [0]) :=
  .inr ⟨_, 0, 1, rfl, rfl, hb, Nat.le_refl _, by decide, #[.int .i64 0], Deep.blk_alloc_new _ _, by simp, fun j hj => by
    have : j = 0 := by omega
    subst this
    rfl⟩

theorem clock_app {w3 w4 : World} {B T base : Nat} {L : Int} {mp : Value} {σ : St} {v u : Value} {o : Obj} {n : Nat} {xs : List Value} (hC : Clock w3 B T base L mp σ v) (hU : Rows? w3 base 2 1 u n xs) (hk : Kp (fun k => u.ownBlock = some k) (w3.alloc o) w4) : Clock w4 B T base L mp σ v := by
  have hC' := hC.kept ((Kp.refl (fun _ => False) w3).alloc o) (fun h => h) (fun h => h) (fun _ _ h => h)
  obtain ⟨p, hp⟩ := hC.T
  exact hC'.kept hk (hU.ne hC.B (by decide)) (hU.ne hp (by decide)) (fun g hg => hC.V.apart hU (by decide) g hg)
theorem rds_count {l : List Int} {i : Nat} {x : Int} (h : l[i]? = some x) (k : Nat) (h1 : 1 ≤ k) (h2 : k ≤ 9) : (rds l)[i * 10 + k]? = some (.int .i64 0) := by
  induction l generalizing i with
  | nil => simp at h
  | cons a l ih =>
    simp only [rds, List.flatMap_cons]
    cases i with
    | zero =>
      rw [List.getElem?_append_left (by simp [rd, c0s]; omega)]
      obtain rfl | rfl | rfl | rfl | rfl | rfl | rfl | rfl | rfl : k = 1 ∨ k = 2 ∨ k = 3 ∨ k = 4 ∨ k = 5 ∨ k = 6 ∨ k = 7 ∨ k = 8 ∨ k = 9 := by omega
      all_goals rfl
    | succ i =>
      rw [List.getElem?_append_right (by simp [rd, c0s]; omega)]
      have e : (i + 1) * 10 + k - (rd a).length = i * 10 + k := by simp [rd, c0s]; omega
      rw [e]
      exact ih (by simpa using h)
theorem rows_drop {w : World} {base g off cap j : Nat} {E : List Int} {q : Int} (hR : Row w base 2 1 g off E.length cap (ints E)) (hj : keepK q E = j + keepK q (E.drop j)) (h0 : keepK q (E.drop j) = 0) (hjl : j ≤ E.length) :
    Rows? w base 2 1 (.slice (some ⟨g, off + j, none⟩) (E.length - j) (cap - j)) (E.drop (keepK q E)).length (ints (E.drop (keepK q E))) := by
  have e : keepK q E = j := by omega
  have h := hR.drop j hjl
  rw [Nat.mul_one] at h
  rw [e, List.length_drop]
  refine .inr ⟨g, off + j, cap - j, rfl, ?_⟩
  have e2 : ints (E.drop j) = (ints E).drop j := by simp [ints, List.map_drop]
  rw [e2]
  exact h

set_option maxRecDepth 100000 in
set_option maxHeartbeats 0 in
theorem law (a0 : Int) (a : Addr) (n c : Nat) (z : Nat → Int) (w : World) (ha0 : 0 ≤ a0 ∧ a0 ≤ 255) (hn : n ≤ 1024) (hc : ∀ i, i < n → w.cell? (a.add i) = some (.int .i16 (z i))) (hz : ∀ i, -32768 ≤ z i ∧ z i ≤ 32767) (a1 : Option Addr) (ha1 : 0 < n → a1 = some a) :
    Calls Yba.prog 3 #[.int .u8 a0, .slice a1 n c] w fun e w' => e = .returned (.bool true) ∧ Below w.heap.size w w' := by
  have hn1 : ¬ (1024 : Int) < (n : Int) := by omega
  have e1 : Int.tmod a0 8 = a0 % 8 := Int.tmod_eq_emod_of_nonneg ha0.1
  have e2 : IntKind.i64.wrap (1 + a0 % 8) = 1 + a0 % 8 := by rw [IntKind.wrap_i64]; omega
  have hL : 1 ≤ 1 + a0 % 8 ∧ 1 + a0 % 8 ≤ 8 := by omega
  have HL := hide hL
  have H1 := hide (fun x W => newMinutes x W)
  have H2 := hide (fun W => newTracker W)
  have HC := hide hc
  have HZ := hide hz
  have HA1 := hide ha1
  have hF : ∀ n, floatOfInt .f64 n = F n := fun _ => rfl
  clear hL hc hz ha1 ha0
  go_enter Yba.func3, Yba.ntmps3
  go_wp2_with fail
  clear e1 e2
  generalize 1 + a0 % 8 = L at *
  refine (H1.out _ _).mono ?_
  rintro e w1 ⟨rfl, hw1⟩
  have hB1 := Is.new w 35 (mcells L false 0 0 0 (.slice none 0 0))
  have hK1 := (Kp.refl (fun k => w.heap.size ≤ k) w).alloc (.cells (mcells L false 0 0 0 (.slice none 0 0)) 35)
  have hs1 : w1.heap.size = w.heap.size + 1 := by rw [hw1, Deep.nblk_alloc]
  rw [show w.alloc (.cells (mcells L false 0 0 0 (.slice none 0 0)) 35) = w1 by rw [hw1]; simp only [mcells, F0]] at hB1 hK1
  have HB1 := hide hB1
  have HK1 := hide hK1
  clear hB1 hK1 hw1
  go_wp2_with fail
  refine (H2.out _).mono ?_
  rintro e w2 ⟨mp, rfl, hT2, hk2⟩
  rw [hs1] at hT2
  rw [hs1]
  have HI : Hid (Inv w w2 w.heap.size (w.heap.size + 1 + 1) w.heap.size L mp ⟨false, 0, 0, 0, []⟩ (.slice none 0 0) (.slice none 0 0)) := by
    refine hide ⟨⟨⟨HL.out.1, HL.out.2, by decide, by decide, by decide, by decide, by simp, by simp⟩, fun _ => ⟨rfl, rfl, rfl, rfl⟩, by decide, by decide, by simp, by simp⟩, ⟨hk2.is HB1.out (fun h => h), ⟨0, hT2⟩, .inl ⟨rfl, rfl, rfl⟩⟩, .inl ⟨rfl, rfl, rfl⟩, HK1.out.trans (hk2.mono (fun _ h => h.elim))⟩
  obtain ⟨base, hbase⟩ : ∃ base, base = w.heap.size := ⟨_, rfl⟩
  rw [← hbase] at HI hs1 ⊢
  obtain ⟨T, hT⟩ : ∃ T, T = base + 1 + 1 := ⟨_, rfl⟩
  rw [← hT] at HI ⊢
  obtain ⟨B, hB⟩ : ∃ B, B = base := ⟨_, rfl⟩
  have HI' : Hid (Inv w w2 B T base L mp ⟨false, 0, 0, 0, []⟩ (.slice none 0 0) (.slice none 0 0)) := by rw [hB]; exact HI
  have HBB := hide (And.intro hbase (And.intro hT hB))
  rw [← hB]
  clear hT2 hk2 HB1 HK1 hs1 HI hbase hT hB H1 H2
  go_wp2
  go_loopg [8, 9, 10, 11, 12, 13] n (fun gk s8 s9 s10 s11 s12 s13 wr => ∃ (i : Nat) (σ : St) (v u : Value), s13 = .int .i64 i ∧ gk + i = n ∧ s8 = .bool σ.st ∧ s9 = .int .i64 σ.s ∧ s10 = .int .i64 σ.f ∧ s11 = .int .i64 σ.n ∧ s12 = u ∧ σ.l.length ≤ i ∧ Inv w wr B T base L mp σ v u)
  case atStart => exact ⟨0, ⟨false, 0, 0, 0, []⟩, _, _, rfl, rfl, rfl, rfl, rfl, rfl, rfl, Nat.le_refl _, HI'.out⟩
  case round =>
    obtain ⟨i, σ, v, u, rfl, hi, rfl, rfl, rfl, rfl, rfl, hli, hI⟩ := hrel
    clear HI'
    by_cases hlt : i < n
    · have hlt' : (i : Int) < (n : Int) := by omega
      have hd : decide ((i : Int) < (n : Int)) = true := decide_eq_true hlt'
      obtain rfl := HA1.out (by omega)
      have h0 : (0 : Int) ≤ (i : Int) := by omega
      have cz := HC.out i hlt
      have cz : wr.cell? (a.add i) = some (.int .i16 (z i)) := (hI.kp.below (B := base) (by rw [HBB.out.1]; exact Nat.le_refl _) (fun i h => h)).cell (by rw [HBB.out.1]; exact World.block_lt_of_cell? w _ cz) |>.trans cz
      have hzi := HZ.out i
      obtain ⟨σ', e', ok, hS⟩ := step_some L σ (z i) hI.good
      have hwn : wrap64 (z i) = z i := by unfold wrap64; omega
      have HS := hide hS
      have HZi := hide hzi
      have HIi := hide hI
      have HLi := hide (And.intro hi hli)
      have HADV := hide (fun W hC hb => advance B T base L mp σ v (z i) W σ' e' ok hS hI.good hzi hC (by have := HBB.out; omega) (by omega) hb)
      clear hS hI hli hi hzi
      generalize z i = now at *
      go_wp2_with fail
      refine (HADV.out _ HIi.out.clock (by rw [HBB.out.1]; exact HIi.out.kp.size)).mono ?_
      rintro e w3 ⟨rfl, v', hC3, hk3⟩
      have hk3' : Kp (fun k => base ≤ k) w w3 := HIi.out.kp.trans (hk3.mono (fun k h => by
        rcases h with h | h | h
        · have := HBB.out; omega
        · have := HBB.out; omega
        · exact (HIi.out.clock.V.lt _ h).1))
      have hU3 := HIi.out.row.kept hk3 (fun g hg h => by
        rcases h with h | h | h
        · exact HIi.out.row.ne HIi.out.clock.B (by decide) (by rw [hg, h])
        · obtain ⟨p, hp⟩ := HIi.out.clock.T
          exact HIi.out.row.ne hp (by decide) (by rw [hg, h])
        · exact HIi.out.row.apart HIi.out.clock.V (by decide) g hg h)
      have HG := hide (HS.out.good HIi.out.good HZi.out)
      have HG0 := hide HIi.out.good
      have HC3 := hide hC3
      have HK3 := hide hk3'
      have HU3 := hide hU3
      clear hC3 hk3 hk3' hU3 HIi HADV cz
      go_upto_if 55 with fail
      go_cut [8, 9, 10, 11, 12, 17, 18] (fun s8 s9 s10 s11 s12 s17 s18 wx => s8 = .bool true ∧ s9 = .int .i64 σ'.s ∧ s10 = .int .i64 σ'.f ∧ s11 = .int .i64 σ'.n ∧ s17 = .int .i64 e' ∧ s18 = .bool ok ∧ Clock wx B T base L mp σ' v' ∧ Rows? wx base 2 1 s12 σ'.l.length (ints σ'.l) ∧ Kp (fun k => base ≤ k) w wx)
      case first =>
        have hS := HS.out
        obtain ⟨hN, -, hs0, hs1, -, -⟩ := HG0.out
        obtain ⟨L0, L1, f0, f1, n0, n1, p0, p1⟩ := hN
        have HNum := hide (show (1 ≤ L ∧ L ≤ 8) ∧ (-32768 ≤ σ.f ∧ σ.f ≤ 32767) ∧ (0 ≤ σ.n ∧ σ.n ≤ 65535) ∧ (0 ≤ σ.n * L ∧ σ.f + σ.n * L ≤ 32767) by omega)
        have x1 := wr64 (show (σ.n * L).natAbs < 2 ^ 40 by omega)
        have x2 := wr64 (show (σ.f + σ.n * L).natAbs < 2 ^ 40 by omega)
        have x3 := wr64 (show (σ.f + σ.n * L - L).natAbs < 2 ^ 40 by omega)
        have x4 := wr64 (show (σ.f + σ.n * L + L).natAbs < 2 ^ 40 by omega)
        clear L0 L1 f0 f1 n0 n1 p0 p1 hs0 hs1 HS
        cases hS with
        | first h => as_aux_lemma =>
          rw [h, Bool.not_false]
          go_wp2
          go_meet
          exact ⟨rfl, rfl, rfl, rfl, rfl, rfl, HC3.out.kept ((Kp.refl (fun _ => False) _).alloc _) (fun h => h) (fun h => h) (fun _ _ h => h), rows_new (by rw [HBB.out.1]; exact HK3.out.size), HK3.out.alloc _⟩
        | back h hlt2 => as_aux_lemma =>
          rw [h, Bool.not_true]
          have o1 : decide (now < σ.f + σ.n * L - L) = true := decide_eq_true hlt2
          go_wp2
          go_meet
          exact ⟨rfl, rfl, rfl, rfl, rfl, rfl, HC3.out.kept ((Kp.refl (fun _ => False) _).alloc _) (fun h => h) (fun h => h) (fun _ _ h => h), rows_new (by rw [HBB.out.1]; exact HK3.out.size), HK3.out.alloc _⟩
        | none h hge hlt2 => as_aux_lemma =>
          rw [h, Bool.not_true]
          have o1 : decide (now < σ.f + σ.n * L - L) = false := decide_eq_false (by omega)
          have o2 : decide (now < σ.f + σ.n * L + L) = true := decide_eq_true hlt2
          go_wp2
          go_meet
          exact ⟨rfl, rfl, rfl, rfl, rfl, rfl, HC3.out, HU3.out, HK3.out⟩
        | ends h hge => as_aux_lemma =>
          rw [h, Bool.not_true]
          have o1 : decide (now < σ.f + σ.n * L - L) = false := decide_eq_false (by have := HNum.out; omega)
          have o2 : decide (now < σ.f + σ.n * L + L) = false := decide_eq_false (by omega)
          obtain ⟨q1, q2, q3, q4⟩ := quo_facts HG0.out.num HZi.out hge
          have e1 : Int.tdiv (now - σ.f) L = (now - σ.f) / L := Int.tdiv_eq_ediv_of_nonneg (by have := HNum.out; omega)
          have x5 := wr64 (show (σ.n + 1).natAbs < 2 ^ 40 by have := HNum.out; omega)
          have x6 := wr64 (show (now - σ.f).natAbs < 2 ^ 40 by have := HNum.out; have := HZi.out; omega)
          have x7 := wr64 (show ((now - σ.f) / L).natAbs < 2 ^ 40 by have := HNum.out; omega)
          have x8 := wr64 (show ((now - σ.f) / L - 15).natAbs < 2 ^ 40 by have := HNum.out; omega)
          have x9 := wr64 (show ((now - σ.f) / L * L).natAbs < 2 ^ 40 by have := HNum.out; have := HZi.out; omega)
          have x10 := wr64 (show (σ.f + (now - σ.f) / L * L).natAbs < 2 ^ 40 by have := HNum.out; have := HZi.out; omega)
          have L00 : ¬ L = 0 := by have := HNum.out; omega
          obtain ⟨i0, hi0, hz0, hz1, hz2⟩ := info_parts info2
          have ho63 : σ.l.length + 1 ≤ maxLen := by have := HLi.out; simp [maxLen]; omega
          have hoby : (σ.l.length + 1) * 8 ≤ 140737488355328 := by have := HLi.out; omega
          have HST := hide (show stEnd L σ now = ⟨true, σ.s, σ.f, (now - σ.f) / L, (σ.l ++ [σ.n + 1]).drop (keepK ((now - σ.f) / L) (σ.l ++ [σ.n + 1]))⟩ from rfl)
          have HC3' := hide (show Clock w3 B T base L mp ⟨true, σ.s, σ.f, (now - σ.f) / L, (σ.l ++ [σ.n + 1]).drop (keepK ((now - σ.f) / L) (σ.l ++ [σ.n + 1]))⟩ v' from HC3.out)
          clear HC3
          have HC3 := HC3'
          clear HC3'
          have HQ := hide (And.intro q1 (And.intro q2 (And.intro q3 q4)))
          clear q1 q2 q3 q4 hge
          generalize (now - σ.f) / L = q at *
          go_wp2_with (at_builtin; refine wpList_append_row rfl (.tmp 76) (.tmp 79) 28 rfl base 2 i0 _ 1 8 Yba.underlying28 hi0 hz0 hz1 hz2 rfl (by decide) _ σ.l.length (ints σ.l) rfl (by exact HU3.out.kept ((Kp.refl (fun _ => False) _).alloc _) (fun _ _ h => h)) _ 1 1 [.int .i64 (σ.n + 1)] rfl rfl (by exact new_cells _ 2 #[.int .i64 (σ.n + 1)]) (by simp [Value.oneCell']) ho63 hoby (by decide) (by rw [Deep.nblk_alloc, HBB.out.1]; have := HK3.out.size; omega) ?_)
          intro g4 off4 cap4 w4 hR4 hk4 hg4
          have hC4 := clock_app HC3.out HU3.out hk4
          have hK4 : Kp (fun k => base ≤ k) w w4 := (HK3.out.alloc _).trans (hk4.mono (fun k h => (HU3.out.lt _ h).1))
          have hR4' : Row w4 base 2 1 g4 off4 (σ.l ++ [σ.n + 1]).length cap4 (ints (σ.l ++ [σ.n + 1])) := by
            have e : (σ.l ++ [σ.n + 1]).length = σ.l.length + 1 := by simp
            rw [e]
            simpa [ints] using hR4
          have HE := hide (show 1 ≤ (σ.l ++ [σ.n + 1]).length ∧ (σ.l ++ [σ.n + 1]).length ≤ 1025 by have := HLi.out; simp; omega)
          rw [show σ.l.length + 1 = (σ.l ++ [σ.n + 1]).length by simp]
          clear hR4 hk4 hg4 HU3 HK3 HC3 ho63 hoby hi0 hz0 hz1 hz2
          generalize σ.l ++ [σ.n + 1] = E at *
          have HC4 := hide hC4
          have HK4 := hide hK4
          have HR4 := hide hR4'
          clear hC4 hK4 hR4'
          go_upto_if 90 with fail
          go_cut [20] (fun s20 wx => s20 = .int .i64 q ∧ wx = w4)
          case first =>
            by_cases hqn : σ.n + 1 < q
            · have hdq : decide (σ.n + 1 < q) = true := decide_eq_true hqn
              go_wp2
              go_meet
              exact ⟨rfl, rfl⟩
            · have hdq : decide (σ.n + 1 < q) = false := decide_eq_false hqn
              go_wp2
              go_meet
              exact ⟨by have := HQ.out; rw [show σ.n + 1 = q by omega], rfl⟩
          case rest =>
            obtain ⟨rfl, rfl⟩ := hcut
            go_wp2
            go_loopg [22] E.length (fun gk k wr => ∃ j : Nat, k = .int .i64 j ∧ gk + j = E.length ∧ j < E.length ∧ keepK q E = j + keepK q (E.drop j) ∧ wr = wc)
            case atStart => exact ⟨0, rfl, rfl, by have := HE.out; omega, by simp, rfl⟩
            case round =>
              obtain ⟨j, rfl, hj, hjl, hkeep, rfl⟩ := hrel
              have HJ := hide (And.intro hj hkeep)
              have hEl := HE.out
              have hw1 : IntKind.i64.wrap ((j : Int) + 1) = (j : Int) + 1 := by rw [IntKind.wrap_i64]; omega
              have ht1 : ((j : Int) + 1).toNat = j + 1 := by omega
              have hjl0 : (j : Int) < (E.length : Int) := by omega
              have hjl1 : (j : Int) ≤ (E.length : Int) := by omega
              have hjl2 : E.length ≤ cap4 := HR4.out.room
              have hjl3 : (j : Int) ≤ (cap4 : Int) := by omega
              have hjl4 : (E.length : Int) ≤ (cap4 : Int) := by omega
              have hjl5 : ¬ cap4 = j := by omega
              have hjl6 : j ≤ E.length := by omega
              clear hj hkeep hEl
              by_cases hlt2 : j + 1 < E.length
              · have hd2 : decide ((j : Int) + 1 < (E.length : Int)) = true := decide_eq_true (by omega)
                have hlt' : (j : Int) + 1 < (E.length : Int) := by omega
                have h01 : (0 : Int) ≤ (j : Int) + 1 := by omega
                obtain ⟨x, hx⟩ : ∃ x, E[j + 1]? = some x := ⟨_, List.getElem?_eq_getElem hlt2⟩
                have cx : wr.cell? ⟨g4, off4 + (j + 1), none⟩ = some (.int .i64 x) := HR4.out.cells _ _ (by simp [ints, hx])
                by_cases hxq : x ≤ q - 15
                · have ho : decide (x ≤ q - 15) = true := decide_eq_true hxq
                  have HX := hide (And.intro hx hxq)
                  clear hx hxq
                  go_wp2
                  go_roundg (gk - 1)
                  case measure => have := HJ.out; omega
                  case rel =>
                    obtain ⟨hj, hkeep⟩ := HJ.out
                    obtain ⟨hx, hxq⟩ := HX.out
                    refine ⟨j + 1, by simp, by omega, by omega, ?_, rfl⟩
                    rw [hkeep, keepK_step hx hxq]
                    omega
                · have ho : decide (x ≤ q - 15) = false := decide_eq_false hxq
                  have HX := hide (show keepK q (E.drop j) = 0 from keepK_stop hx hxq)
                  clear hx hxq
                  go_wp2
                  go_meet
                  rw [HST.out]; exact ⟨rfl, rfl, rfl, rfl, rfl, rfl, HC4.out, rows_drop HR4.out HJ.out.2 HX.out hjl6, HK4.out⟩
              · have hd2 : decide ((j : Int) + 1 < (E.length : Int)) = false := decide_eq_false (by omega)
                have HX := hide (show keepK q (E.drop j) = 0 from keepK_last (by omega))
                go_wp2
                go_meet
                rw [HST.out]; exact ⟨rfl, rfl, rfl, rfl, rfl, rfl, HC4.out, rows_drop HR4.out HJ.out.2 HX.out hjl6, HK4.out⟩
      case rest => as_aux_lemma =>
        obtain ⟨rfl, rfl, rfl, rfl, rfl, rfl, hC, hU, hK⟩ := hcut
        obtain ⟨hG, hlen, hst⟩ := HG.out
        have HGG := HG
        have hne := hG.ne hst
        have hEnd := HS.out.end
        obtain ⟨hN, -, hs0, hs1, hlb, -⟩ := hG
        obtain ⟨L0, L1, f0, f1, n0, n1, p0, p1⟩ := hN
        have hB := hC.B
        rw [hst] at hB
        have q0 := ne_same (a := L) (by omega)
        have q1 := ne_same (a := e') (by omega)
        have q2 := ne_same (a := σ'.s) (by omega)
        have q3 := ne_same (a := σ'.f) (by omega)
        have q4 := ne_same (a := σ'.n) (by omega)
        have mE : ok = true → ∀ t w, (binOp .sub t (.float .f64 (F (σ'.f + (σ'.n + 1) * L))) (.float .f64 (F L))).run Yba.prog w = .ok (.float .f64 (F e')) w := by
          intro h t w
          have e : e' = σ'.f + (σ'.n + 1) * L - L := by
            rw [Int.add_mul]
            rcases hEnd with ⟨_, h2⟩ | ⟨h1, _⟩
            · omega
            · rw [h] at h1; cases h1
          rw [e]
          exact run_sub (P := Yba.prog) (a := σ'.f + (σ'.n + 1) * L) (b := L) (by rw [Int.add_mul]; omega) (by omega) (by rw [Int.add_mul]; omega) t w
        rcases hC.V with ⟨_, hl0, _⟩ | ⟨g, off, cap, hv, hRV⟩
        · omega
        rcases hU with ⟨_, hl0, _⟩ | ⟨g2, off2, cap2, rfl, hRU⟩
        · omega
        rw [hv] at hB
        have d0 := hB.cell 0
        have d1 := hB.cell 1
        have d2 := hB.cell 2
        have d3 := hB.cell 3
        have d4 := hB.cell 4
        have d5 := hB.cell 5
        simp only [mcells, List.getElem?_toArray, List.getElem?_cons_zero, List.getElem?_cons_succ] at d0 d1 d2 d3 d4 d5
        have HB := hide hB
        have HE := hide (fun W h => end_ B L σ'.f σ'.n true (.float .f64 (F σ'.s)) (.slice (some ⟨g, off, none⟩) σ'.l.length cap) W h ⟨by omega, L1⟩ (by omega) ⟨n0, by omega⟩)
        have HRV := hide hRV
        have HRU := hide hRU
        have HLB := hide hlb
        have HKc := hide hK
        have HCc := hide hC
        clear hB hRV hRU hlb hK hC L0 L1 f0 f1 n0 n1 p0 p1 hs0 hs1 hEnd hst hne HG HG0 HS HU3 HK3 HC3 hlen
        go_upto_region 42 with fail
        go_cut [136] (fun s136 wx => s136 = .bool false ∧ Kp (fun _ => False) wc wx)
        case first =>
          cases ok with
          | false =>
            clear mE
            go_wp2
            go_meet
            exact ⟨rfl, Kp.refl _ _⟩
          | true =>
            have m1 := mE rfl
            clear mE
            go_wp2_with fail
            refine (HE.out _ HB.out).mono ?_
            rintro e w5 ⟨rfl, hk5⟩
            go_wp2
            go_meet
            exact ⟨rfl, hk5⟩
        case rest =>
          obtain ⟨rfl, hk6⟩ := hcut
          have hB6 := hk6.is HB.out (fun h => h)
          have HRV6 := hide (HRV.out.kept hk6 (fun h => h))
          have HRU6 := hide (HRU.out.kept hk6 (fun h => h))
          have HI6 := hide (And.intro (HCc.out.kept hk6 (fun h => h) (fun h => h) (fun _ _ h => h)) (HKc.out.trans (hk6.mono (fun _ h => h.elim))))
          clear d0 d1 d2 d3 d4 d5 HRV HRU HB HE HKc HCc mE hk6
          have d0 := hB6.cell 0
          have d1 := hB6.cell 1
          have d2 := hB6.cell 2
          have d3 := hB6.cell 3
          have d4 := hB6.cell 4
          have d5 := hB6.cell 5
          simp only [mcells, List.getElem?_toArray, List.getElem?_cons_zero, List.getElem?_cons_succ] at d0 d1 d2 d3 d4 d5
          have HB6 := hide hB6
          clear hB6
          go_wp2
          clear d0 d1 d2 d3 d4 d5
          go_loopg [23] σ'.l.length (fun gk k wr => ∃ j : Nat, k = .int .i64 j ∧ gk + j = σ'.l.length ∧ j ≤ σ'.l.length ∧ Kp (fun _ => False) wc wr)
          case atStart => exact ⟨0, rfl, rfl, Nat.zero_le _, Kp.refl _ _⟩
          case round =>
            obtain ⟨j, rfl, hj, hjl, hkr⟩ := hrel
            have hBr := hkr.is HB6.out (fun h => h)
            have d5 := hBr.cell 5
            simp only [mcells, List.getElem?_toArray, List.getElem?_cons_zero, List.getElem?_cons_succ] at d5
            have HJ := hide hj
            have HKr := hide hkr
            by_cases hlt2 : j < σ'.l.length
            · have hd2 : decide ((j : Int) < (σ'.l.length : Int)) = true := decide_eq_true (by omega)
              have hlt3 : (j : Int) < (σ'.l.length : Int) := by omega
              have h01 : (0 : Int) ≤ (j : Int) := by omega
              obtain ⟨x, hx⟩ : ∃ x, σ'.l[j]? = some x := ⟨_, List.getElem?_eq_getElem hlt2⟩
              have hx2 := HLB.out x (List.mem_of_getElem? hx)
              have hRr := HRV6.out.kept hkr (fun h => h)
              have cx : wr.cell? ⟨g, off + j * 10, none⟩ = some (.float .f64 (F x)) := hRr.cells _ _ (rds_at hx)
              have cu : wr.cell? ⟨g2, off2 + j, none⟩ = some (.int .i64 x) := (HRU6.out.kept hkr (fun h => h)).cells _ _ (by simp [ints, hx])
              have ck := fun k hk1 hk2 => hRr.cells (j * 10 + k) (.int .i64 0) (rds_count hx k hk1 hk2)
              have ck1 := ck 1 (by decide) (by decide)
              have ck2 := ck 2 (by decide) (by decide)
              have ck3 := ck 3 (by decide) (by decide)
              have ck4 := ck 4 (by decide) (by decide)
              have ck5 := ck 5 (by decide) (by decide)
              have ck6 := ck 6 (by decide) (by decide)
              have ck7 := ck 7 (by decide) (by decide)
              have ck8 := ck 8 (by decide) (by decide)
              have ck9 := ck 9 (by decide) (by decide)
              simp only [← Nat.add_assoc] at ck1 ck2 ck3 ck4 ck5 ck6 ck7 ck8 ck9
              have qx := ne_same (a := x) (by omega)
              have hwj := wr64 (show ((j : Int) + 1).natAbs < 2 ^ 40 by have := HGG.out.2.1; have := HLi.out; omega)
              clear hx hx2 hRr ck hj hjl hBr hkr
              go_upto_region 53 with fail
              go_quiet (fail)
              go_wp2
              go_roundg (gk - 1)
              case measure => have := HJ.out; omega
              case rel => exact ⟨j + 1, by simp, by have := HJ.out; omega, by omega, HKr.out.drewN _⟩
            · have hd2 : decide ((j : Int) < (σ'.l.length : Int)) = false := decide_eq_false (by omega)
              clear hj hjl hBr hkr
              go_wp2
              go_roundg (n - (i + 1))
              case measure => have := HLi.out; omega
              case rel => exact ⟨i + 1, σ', v', _, by simp, by omega, by rw [HGG.out.2.2], rfl, rfl, rfl, rfl, by have := HGG.out.2.1; have := HLi.out; omega, ⟨HGG.out.1, HI6.out.1.kept HKr.out (fun h => h) (fun h => h) (fun _ _ h => h), .inr ⟨g2, off2, cap2, rfl, HRU6.out.kept HKr.out (fun h => h)⟩, HI6.out.2.trans (HKr.out.mono (fun _ h => h.elim))⟩⟩
    · have hd : decide ((i : Int) < (n : Int)) = false := decide_eq_false (by omega)
      have HIi := hide hI
      clear hI
      go_wp2
      go_ret
      exact ⟨rfl, HIi.out.kp.below (by exact Nat.le_refl _) (fun i h => by rw [← HBB.out.1]; exact h)⟩
end Go.Proofs.Ybulkbpfu
