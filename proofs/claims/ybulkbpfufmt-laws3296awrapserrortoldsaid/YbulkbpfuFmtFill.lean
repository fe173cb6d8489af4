import Derived.Test.YbulkbpfuFmtRead
import Derived.Deep.RegionHeld3
namespace Go.Proofs.YbulkbpfuFmt
open Go.ChangeShapes Go.WideShapes Go.ChangeAt Go.RowKit
set_option linter.unusedVariables false

theorem method_read (a : Addr) (w : World) : (method 268 34 (.pointer (some a)) "Read").run Ybaf.prog w = .ok (67, .pointer (some a)) w := by kernel_rfl

/-- The cells of a bufio.Reader. -/
def brc (F S : Nat) (r q : Int) (er lb lr : Value) : Array Value := #[.slice (some ⟨F, 0, none⟩) 4096 4096, .iface 34 (.pointer (some ⟨S, 0, none⟩)), .int .i64 r, .int .i64 q, er, lb, lr]

theorem kp_two (w : World) (B : Nat) (v v' : Value) : Kp (fun k => k = B) w ((w.setCell ⟨B, 3, none⟩ v).setCell ⟨B, 2, none⟩ v') := ((Kp.refl (fun k => k = B) w).set (p := ⟨B, 3, none⟩) (fun _ => rfl) v).set (p := ⟨B, 2, none⟩) (fun _ => rfl) v'
theorem Kp.rowIs {S : Nat → Prop} {w w' : World} (k : Kp S w w') {b : Nat} {t : TypeId} {n : Nat} {f : Nat → Value} (h : w.rowIs b t n f) (hs : ¬ S b) : w'.rowIs b t n f := h.of_block (k.block b h.lt hs)
theorem Kp.setCells {S : Nat → Prop} {a : World} (b : Nat) (hp : S b) : ∀ (vs : List Value) (o : Nat) (c : World), Kp S a c → Kp S a (c.setCells b o vs)
  | [], _, _, h => h
  | v :: r, o, c, h => Kp.setCells b hp r (o + 1) _ (h.set (fun _ => hp) v)
theorem rowIs_setCells (b : Nat) (t : TypeId) (N : Nat) : ∀ (vs : List Value) (o : Nat) (w : World) (f : Nat → Value), w.rowIs b t N f → ∃ f', (w.setCells b o vs).rowIs b t N f' ∧ (∀ j, j < vs.length → f' (o + j) = vs.getD j undef) ∧ (∀ j, j < o → f' j = f j)
  | [], o, w, f, h => ⟨f, h, fun j hj => by simp at hj, fun _ _ => rfl⟩
  | v :: r, o, w, f, h => by
    obtain ⟨f', h1, h2, h3⟩ := rowIs_setCells b t N r (o + 1) _ _ (h.set o v)
    refine ⟨f', h1, fun j hj => ?_, fun j hj => ?_⟩
    · cases j with
      | zero => rw [Nat.add_zero, h3 o (by omega)]; simp
      | succ j => have := h2 j (by simpa using hj); rw [show o + (j + 1) = o + 1 + j from by omega, this]; simp
    · rw [h3 j (by omega)]; simp [show ¬ j = o by omega]

set_option maxRecDepth 100000 in
set_option maxHeartbeats 4000000 in
theorem fill_none (B F S n cap i : Nat) (ao : Option Addr) (te : TypeId) (ev lb lr : Value) (r : Nat) (w : World) (hB : Is w B 101 (brc F S r r .nilIface lb lr)) (hr : r ≤ 3) (hn : n ≤ 1000000) (hS : Is w S 38 #[.slice ao n cap, .int .i64 i, .iface te ev]) (hi : n ≤ i) (hi2 : i ≤ 1000000) (hSB : S ≠ B) :
    Calls Ybaf.prog 38 #[.pointer (some ⟨B, 0, none⟩)] w fun e w' => e = .returned (.tuple #[]) ∧ Is w' B 101 (brc F S 0 0 (.iface te ev) lb lr) ∧ Kp (fun k => k = B) w w' := by
  have c0 := hB.cell 0
  have c1 := hB.cell 1
  have c2 := hB.cell 2
  have c3 := hB.cell 3
  have c4 := hB.cell 4
  have f2 := hB.frozen 2
  have f3 := hB.frozen 3
  have f4 := hB.frozen 4
  simp [brc] at c0 c1 c2 c3 c4
  have HB := hide hB
  have HS := hide hS
  clear hB hS
  have hmr := method_read
  by_cases h0 : r = 0
  · subst h0
    have HK1 := hide (Kp.refl (fun k => k = B) w)
    have HB1 : Hid (Is w B 101 (brc F S 0 0 .nilIface lb lr)) := HB.out
    have HS1 := hide HS.out
    go_enter Ybaf.func38, Ybaf.ntmps38
    go_wp2
    go_quiet (fail)
    go_wp2
    refine wp_loop_rounds 1 ?_
    rw [rounds_succ]
    go_wp2
    go_region_held3 (fun w' => w'.cell? ⟨B, 0, none⟩ = some (.slice (some ⟨F, 0, none⟩) 4096 4096) ∧ w'.cell? ⟨B, 1, none⟩ = some (.iface 34 (.pointer (some ⟨S, 0, none⟩))) ∧ w'.cell? ⟨B, 3, none⟩ = some (.int .i64 0)) (go_keep)
      ((go_at_call 67; refine (read_none S F n cap i ao (.iface te ev) _ hn (by exact HS1.out) hi hi2).mono ?_; rintro e w2 ⟨rfl, q, rfl⟩))
    go_wp2
    refine bodyPost_ret (v := .tuple #[]) (by simp [results, Ybaf.results38]) rfl ⟨rfl, ?_, ?_⟩
    · have h := (HB1.out.set 3 (.int .i64 0)).set 4 (.iface te ev)
      simp only [brc] at h ⊢
      exact h.heap rfl
    · exact ((HK1.out.drewN _).set (fun _ => rfl) _).set (fun _ => rfl) _
  · have hpos : 0 < r := by omega
    have rr : (r : Int) - (r : Int) = 0 := by omega
    have hr0 : (0 : Int) ≤ (r : Int) := by omega
    have hr1 : (r : Int) ≤ 4096 := by omega
    have hr2 : ¬ 4096 = r := by omega
    go_enter Ybaf.func38, Ybaf.ntmps38
    go_wp2
    go_region_held3 (fun w' => w'.cell? ⟨B, 0, none⟩ = some (.slice (some ⟨F, 0, none⟩) 4096 4096) ∧ w'.cell? ⟨B, 2, none⟩ = some (.int .i64 r) ∧ w'.cell? ⟨B, 3, none⟩ = some (.int .i64 r)) (go_keep)
      (refine step_copy_none rfl _ _ 22 22 rfl 5 Ybaf.underlying22 info5 _ _ _ _ _ _ rfl rfl (by simp) ?_)
    go_wp2
    go_region
    go_wp2
    have HK1 := hide (kp_two w B (.int .i64 0) (.int .i64 0))
    have HB1 : Hid (Is ((w.setCell ⟨B, 3, none⟩ (.int .i64 0)).setCell ⟨B, 2, none⟩ (.int .i64 0)) B 101 (brc F S 0 0 .nilIface lb lr)) := by
      have h := (HB.out.set 3 (.int .i64 0)).set 2 (.int .i64 0)
      simp only [brc] at h
      exact h
    have HS1 := hide (HK1.out.is HS.out hSB)
    generalize (w.setCell ⟨B, 3, none⟩ (.int .i64 0)).setCell ⟨B, 2, none⟩ (.int .i64 0) = w1 at *
    clear c0 c1 c2 c3 c4 f2 f3 f4 HB HS rr hr0 hr1 hr2 hpos h0
    have c0 := HB1.out.cell 0
    have c1 := HB1.out.cell 1
    have c2 := HB1.out.cell 2
    have c3 := HB1.out.cell 3
    have c4 := HB1.out.cell 4
    have f3 := HB1.out.frozen 3
    have f4 := HB1.out.frozen 4
    simp [brc] at c0 c1 c2 c3 c4
    go_quiet (fail)
    go_wp2
    refine wp_loop_rounds 1 ?_
    rw [rounds_succ]
    go_wp2
    go_region_held3 (fun w' => w'.cell? ⟨B, 0, none⟩ = some (.slice (some ⟨F, 0, none⟩) 4096 4096) ∧ w'.cell? ⟨B, 1, none⟩ = some (.iface 34 (.pointer (some ⟨S, 0, none⟩))) ∧ w'.cell? ⟨B, 3, none⟩ = some (.int .i64 0)) (go_keep)
      ((go_at_call 67; refine (read_none S F n cap i ao (.iface te ev) _ hn (by exact HS1.out) hi hi2).mono ?_; rintro e w2 ⟨rfl, q, rfl⟩))
    go_wp2
    refine bodyPost_ret (v := .tuple #[]) (by simp [results, Ybaf.results38]) rfl ⟨rfl, ?_, ?_⟩
    · have h := (HB1.out.set 3 (.int .i64 0)).set 4 (.iface te ev)
      simp only [brc] at h ⊢
      exact h.heap rfl
    · exact ((HK1.out.drewN _).set (fun _ => rfl) _).set (fun _ => rfl) _

/-- What Read leaves, as the rest of fill wants it. -/
theorem after_read {w w1 w2 : World} {B F S g n cap i m nq : Nat} {E lb lr : Value} {bs : List Int} {f : Nat → Value} (hK : Kp (fun k => k = B) w w1) (hB : Is w1 B 101 (brc F S 0 0 .nilIface lb lr)) (hF : w1.rowIs F 5 4096 f) (hS : Is w1 S 38 #[.slice (some ⟨g, 0, none⟩) n cap, .int .i64 i, E])
    (hSF : S ≠ F) (hBS : B ≠ S) (hBF : B ≠ F) (hw : ∃ q, w2 = (((w1.drewN nq).drewN q).setCells F 0 ((List.range m).map fun j => Value.int .u8 (bs.getD (i + j) 0))).setCell ⟨S, 1, none⟩ (.int .i64 ((i : Int) + m))) :
    Is w2 B 101 (brc F S 0 0 .nilIface lb lr) ∧ (∃ f', w2.rowIs F 5 4096 f' ∧ ∀ j, j < m → f' j = .int .u8 (bs.getD (i + j) 0)) ∧ Is w2 S 38 #[.slice (some ⟨g, 0, none⟩) n cap, .int .i64 ((i : Int) + m), E] ∧ Kp (fun k => k = B ∨ k = F ∨ k = S) w w2 := by
  obtain ⟨q, rfl⟩ := hw
  have k1 : Kp (fun k => k = F) w1 (((w1.drewN nq).drewN q).setCells F 0 ((List.range m).map fun j => Value.int .u8 (bs.getD (i + j) 0))) := Kp.setCells (S := fun k => k = F) F rfl _ _ _ (((Kp.refl _ w1).drewN _).drewN _)
  obtain ⟨f', h1, h2, _⟩ := rowIs_setCells F 5 4096 ((List.range m).map fun j => Value.int .u8 (bs.getD (i + j) 0)) 0 ((w1.drewN nq).drewN q) f hF
  refine ⟨(k1.is hB hBF).other hBS _ _, ⟨f', h1.setOther (fun e => hSF e.symm) _, fun j hj => ?_⟩, ?_, ?_⟩
  · have := h2 j (by simpa using hj)
    rw [Nat.zero_add] at this
    rw [this]
    simp [List.getD, hj]
  · have h := (k1.is hS hSF).set 1 (.int .i64 ((i : Int) + m))
    exact h
  · exact ((hK.mono (fun k h => .inl h)).trans (k1.mono (fun k h => .inr (.inl h)))).set (fun _ => .inr (.inr rfl)) _

set_option maxRecDepth 100000 in
set_option maxHeartbeats 4000000 in
theorem fill_some (B F S g n cap i m : Nat) (E lb lr : Value) (bs : List Int) (f : Nat → Value) (r : Nat) (w : World) (hB : Is w B 101 (brc F S r r .nilIface lb lr)) (hr : r ≤ 3) (hn : n ≤ 1000000) (hnc : n ≤ cap) (hS : Is w S 38 #[.slice (some ⟨g, 0, none⟩) n cap, .int .i64 i, E]) (hF : w.rowIs F 5 4096 f)
    (hi : i < n) (hm : (3 < n - i ∧ m = 3) ∨ (n - i ≤ 3 ∧ m = n - i)) (hSF : S ≠ F) (hgF : g ≠ F) (hgS : g ≠ S) (hSB : S ≠ B) (hBS : B ≠ S) (hBF : B ≠ F) (hFB : F ≠ B) (hgB : g ≠ B) (hm0 : 0 < m) (hm3 : m ≤ 3) (hc : ∀ j, j < n → w.cell? ⟨g, j, none⟩ = some (.int .u8 (bs.getD j 0))) :
    Calls Ybaf.prog 38 #[.pointer (some ⟨B, 0, none⟩)] w fun e w' => e = .returned (.tuple #[]) ∧ Is w' B 101 (brc F S 0 m .nilIface lb lr) ∧ (∃ f', w'.rowIs F 5 4096 f' ∧ ∀ j, j < m → f' j = .int .u8 (bs.getD (i + j) 0)) ∧
      Is w' S 38 #[.slice (some ⟨g, 0, none⟩) n cap, .int .i64 ((i : Int) + m), E] ∧ Kp (fun k => k = B ∨ k = F ∨ k = S) w w' := by
  have c0 := hB.cell 0
  have c1 := hB.cell 1
  have c2 := hB.cell 2
  have c3 := hB.cell 3
  have c4 := hB.cell 4
  have f2 := hB.frozen 2
  have f3 := hB.frozen 3
  have f4 := hB.frozen 4
  simp [brc] at c0 c1 c2 c3 c4
  have HB := hide hB
  have HS := hide hS
  have HF := hide hF
  have HCC := hide hc
  clear hF hc
  clear hB hS
  have hmr := method_read
  by_cases h0 : r = 0
  · subst h0
    have HK1 := hide (Kp.refl (fun k => k = B) w)
    have HB1 : Hid (Is w B 101 (brc F S 0 0 .nilIface lb lr)) := HB.out
    have HS1 := hide HS.out
    have HF1 := hide HF.out
    have HC1 := hide HCC.out
    go_enter Ybaf.func38, Ybaf.ntmps38
    go_wp2
    go_quiet (fail)
    go_wp2
    refine wp_loop_rounds 1 ?_
    rw [rounds_succ]
    go_wp2
    go_region_held3 (fun w' => w'.cell? ⟨B, 0, none⟩ = some (.slice (some ⟨F, 0, none⟩) 4096 4096) ∧ w'.cell? ⟨B, 1, none⟩ = some (.iface 34 (.pointer (some ⟨S, 0, none⟩))) ∧ w'.cell? ⟨B, 3, none⟩ = some (.int .i64 0)) (go_keep)
      ((go_at_call 67; refine (read_some S F g n cap i m E bs f _ hn hnc (by exact HS1.out) (by exact HF1.out) hi hm hSF hgF hgS (by exact HC1.out)).mono ?_; rintro e w2 ⟨rfl, hw2⟩; obtain ⟨hB2, hF2, hS2, hK2⟩ := after_read HK1.out HB1.out HF1.out HS1.out hSF hBS hBF hw2; have d0 := hB2.cell 0; have d1 := hB2.cell 1; have d2 := hB2.cell 2; have d3 := hB2.cell 3; have d4 := hB2.cell 4; have g3 := hB2.frozen 3; simp [brc] at d0 d1 d2 d3 d4))
    have HB2 := hide hB2
    have HF2 := hide hF2
    have HS2 := hide hS2
    clear hB2 hF2 hS2
    go_wp2
    refine bodyPost_ret (v := .tuple #[]) (by simp [results, Ybaf.results38]) rfl ⟨rfl, ?_, ?_, ?_, ?_⟩
    · have h := HB2.out.set 3 (.int .i64 (m : Int))
      simp only [brc] at h ⊢
      exact h.heap rfl
    · obtain ⟨f', h1, h2⟩ := HF2.out
      exact ⟨f', h1.setOther hFB _, h2⟩
    · exact HS2.out.other hSB _ _
    · exact hK2.set (fun _ => .inl rfl) _
  · have hpos : 0 < r := by omega
    have rr : (r : Int) - (r : Int) = 0 := by omega
    have hr0 : (0 : Int) ≤ (r : Int) := by omega
    have hr1 : (r : Int) ≤ 4096 := by omega
    have hr2 : ¬ 4096 = r := by omega
    go_enter Ybaf.func38, Ybaf.ntmps38
    go_wp2
    go_region_held3 (fun w' => w'.cell? ⟨B, 0, none⟩ = some (.slice (some ⟨F, 0, none⟩) 4096 4096) ∧ w'.cell? ⟨B, 2, none⟩ = some (.int .i64 r) ∧ w'.cell? ⟨B, 3, none⟩ = some (.int .i64 r)) (go_keep)
      (refine step_copy_none rfl _ _ 22 22 rfl 5 Ybaf.underlying22 info5 _ _ _ _ _ _ rfl rfl (by simp) ?_)
    go_wp2
    go_region
    go_wp2
    have HK1 := hide (kp_two w B (.int .i64 0) (.int .i64 0))
    have HB1 : Hid (Is ((w.setCell ⟨B, 3, none⟩ (.int .i64 0)).setCell ⟨B, 2, none⟩ (.int .i64 0)) B 101 (brc F S 0 0 .nilIface lb lr)) := by
      have h := (HB.out.set 3 (.int .i64 0)).set 2 (.int .i64 0)
      simp only [brc] at h
      exact h
    have HS1 := hide (HK1.out.is HS.out hSB)
    have HF1 := hide (HK1.out.rowIs HF.out hFB)
    have HC1 := hide (fun j hj => HK1.out.cell (HCC.out j hj) hgB)
    generalize (w.setCell ⟨B, 3, none⟩ (.int .i64 0)).setCell ⟨B, 2, none⟩ (.int .i64 0) = w1 at *
    clear c0 c1 c2 c3 c4 f2 f3 f4 HB HS rr hr0 hr1 hr2 hpos h0 HF HCC
    have c0 := HB1.out.cell 0
    have c1 := HB1.out.cell 1
    have c2 := HB1.out.cell 2
    have c3 := HB1.out.cell 3
    have c4 := HB1.out.cell 4
    have f3 := HB1.out.frozen 3
    have f4 := HB1.out.frozen 4
    simp [brc] at c0 c1 c2 c3 c4
    go_quiet (fail)
    go_wp2
    refine wp_loop_rounds 1 ?_
    rw [rounds_succ]
    go_wp2
    go_region_held3 (fun w' => w'.cell? ⟨B, 0, none⟩ = some (.slice (some ⟨F, 0, none⟩) 4096 4096) ∧ w'.cell? ⟨B, 1, none⟩ = some (.iface 34 (.pointer (some ⟨S, 0, none⟩))) ∧ w'.cell? ⟨B, 3, none⟩ = some (.int .i64 0)) (go_keep)
      ((go_at_call 67; refine (read_some S F g n cap i m E bs f _ hn hnc (by exact HS1.out) (by exact HF1.out) hi hm hSF hgF hgS (by exact HC1.out)).mono ?_; rintro e w2 ⟨rfl, hw2⟩; obtain ⟨hB2, hF2, hS2, hK2⟩ := after_read HK1.out HB1.out HF1.out HS1.out hSF hBS hBF hw2; have d0 := hB2.cell 0; have d1 := hB2.cell 1; have d2 := hB2.cell 2; have d3 := hB2.cell 3; have d4 := hB2.cell 4; have g3 := hB2.frozen 3; simp [brc] at d0 d1 d2 d3 d4))
    have HB2 := hide hB2
    have HF2 := hide hF2
    have HS2 := hide hS2
    clear hB2 hF2 hS2
    go_wp2
    refine bodyPost_ret (v := .tuple #[]) (by simp [results, Ybaf.results38]) rfl ⟨rfl, ?_, ?_, ?_, ?_⟩
    · have h := HB2.out.set 3 (.int .i64 (m : Int))
      simp only [brc] at h ⊢
      exact h.heap rfl
    · obtain ⟨f', h1, h2⟩ := HF2.out
      exact ⟨f', h1.setOther hFB _, h2⟩
    · exact HS2.out.other hSB _ _
    · exact hK2.set (fun _ => .inl rfl) _
end Go.Proofs.YbulkbpfuFmt
