import Derived.Test.YbulkbpgiDigits
import Derived.Laws.CopyOwn
import Derived.Laws.IdiomCopy
namespace Go.Proofs.Ybulkbpgi
open Go.ChangeShapes Go.WideShapes Go.ChangeAt Go.RowKit
set_option linter.unusedVariables false

theorem info5 : (Yba.prog.info? 5).map (·.size) = some 1 := by kernel_rfl
theorem wpList_copy_cells {P : Program} {w : World} {ops : Array Oper} {rest : List Oper} {o : Oper} {a : Act} {Q : Exit → Act → World → Prop} (hgd : o.guard = none) (d s : Operand) (dT sT : TypeId)
    (ho : o.op = .call { callee := .builtin .copy, args := #[d, s], argTypes := #[dT, sT] }) (elem : TypeId) (hu : P.underlying dT = some (.slice elem)) (hsz : (P.info? elem).map (·.size) = some 1)
    (b off dLen dCap : Nat) (ad : Addr) (sLen sCap : Nat) (cs : List Value) (hd : a.eval d = .slice (some ⟨b, off, none⟩) dLen dCap) (hs : a.eval s = .slice (some ad) sLen sCap) (hn : cs.length = Nat.min sLen dLen)
    (hsrc : ∀ j v, cs[j]? = some v → w.cell? (ad.add j) = some v) (hc : ∀ j, j < cs.length → (w.cell? ⟨b, off + j, none⟩).isSome = true) (hf : ∀ j, j < cs.length → w.frozen? ⟨b, off + j, none⟩ = false) (h1 : ∀ v ∈ cs, v.oneCell' = true)
    (h : wpList P ops Q rest (a.put o.dst (goInt cs.length)) (w.setCells b off cs)) : wpList P ops Q (o :: rest) a w := by
  refine wpList_plain hgd fun K hK => ?_
  have hrun := run_copy_cells (P := P) w dT sT o.type elem b off dLen dCap ad sLen sCap cs hu hsz hn hsrc hc hf h1
  unfold Oper.wp
  simp [execOp, ho, resolve, invoke, builtin, hd, hs, hrun, Result.andThen]
  exact hK _ _ h
theorem below_setCells {B g : Nat} (hg : B ≤ g) : ∀ (l : List Value) (o : Nat) {w0 w : World}, Below B w0 w → Below B w0 (w.setCells g o l)
  | [], _, _, _, h => h
  | v :: r, o, _, _, h => below_setCells hg r (o + 1) (h.setCell (by exact hg) v)

set_option maxRecDepth 100000 in
set_option maxHeartbeats 4000000 in
theorem model_walk (b o n cap : Nat) (Z : Nat → Int) (w : World) (hn : n ≤ 1024) (hpos : 0 < n) (hb : b < w.heap.size) (hc : ∀ j, j < n → w.cell? ⟨b, o + j, none⟩ = some (.int .u8 (Z j))) :
    Calls Yba.prog 3 #[.slice (some ⟨b, o, none⟩) n cap] w fun e w' => e = .returned (.bool true) ∧ Below w.heap.size w w' := by
  have hmk := make_run n hn
  have hd0 : decide ((1024 : Int) < (n : Int)) = false := by simp; omega
  have hM : (w.alloc (.cells (madeCells #[.int .u8 0] n) 5)).rowIs w.heap.size 5 n (fun _ => .int .u8 0) := World.rowIs_made w (.int .u8 0) n 5
  have hB0 : Below w.heap.size w (w.alloc (.cells (madeCells #[.int .u8 0] n) 5)) := (Below.refl _ _).alloc (Nat.le_refl _) _
  obtain ⟨cs, hcs⟩ : ∃ cs : List Value, cs = (List.range n).map fun j => Value.int .u8 (Z j) := ⟨_, rfl⟩
  have hlen : cs.length = n := by rw [hcs]; simp
  have hget : ∀ j, j < n → cs[j]? = some (.int .u8 (Z j)) := fun j hj => by rw [hcs]; simp [hj]
  have hsrc : ∀ j v, cs[j]? = some v → (w.alloc (.cells (madeCells #[.int .u8 0] n) 5)).cell? ((⟨b, o, none⟩ : Addr).add j) = some v := fun j v hv => by
    have hj : j < n := by rw [← hlen]; exact (List.getElem?_eq_some_iff.1 hv).1
    rw [add_plain, hB0.cell (by exact hb), hc j hj, ← hget j hj, hv]
  have hcell : ∀ j, j < cs.length → ((w.alloc (.cells (madeCells #[.int .u8 0] n) 5)).cell? ⟨w.heap.size, 0 + j, none⟩).isSome = true := fun j hj => by rw [Nat.zero_add, hM.cell (by omega)]; rfl
  have hin : ∀ j, j < n → ((w.alloc (.cells (madeCells #[.int .u8 0] n) 5)).setCells w.heap.size 0 cs).cell? ⟨w.heap.size, 0 + j, none⟩ = some (.int .u8 (Z j)) := fun j hj => by
    have h := World.cell?_setCells_in w.heap.size cs 0 (w.alloc (.cells (madeCells #[.int .u8 0] n) 5)) hcell j (by omega)
    rw [h]
    have := hget j hj
    rw [List.getElem?_eq_getElem (by omega)] at this
    exact this
  have hB1 := below_setCells (Nat.le_refl w.heap.size) cs 0 hB0
  have hold : ∀ j, j < n → ((w.alloc (.cells (madeCells #[.int .u8 0] n) 5)).setCells w.heap.size 0 cs).cell? ⟨b, o + j, none⟩ = some (.int .u8 (Z j)) := fun j hj => (hB1.cell (by exact hb)).trans (hc j hj)
  obtain ⟨r, k, H5, H6⟩ := parse_any (some ⟨b, o, none⟩) b o n cap Z _ (fun _ => rfl) hold
  have H6' := fun cp => H6 w.heap.size 0 cp (some ⟨w.heap.size, 0, none⟩) _ (fun _ => rfl) hin
  have HIN := hide hin
  have HOLD := hide hold
  have HB1 := hide hB1
  have HH5 := hide H5
  have HH6 := hide H6'
  have HSRC := hide hsrc
  have HCELL := hide hcell
  have HM := hide hM
  have HONE : Hid (∀ v ∈ cs, v.oneCell' = true) := by
    intro v hv
    rw [hcs] at hv
    obtain ⟨j, _, rfl⟩ := List.mem_map.1 hv
    rfl
  have HCP := hide (run_copy_cells (P := Yba.prog) (w.alloc (.cells (madeCells #[.int .u8 0] n) 5)) 22 22 3 5 w.heap.size 0 n n ⟨b, o, none⟩ n cap cs Yba.underlying22 info5 (by rw [hlen]; simp) hsrc hcell (fun j hj => hM.frozen _) HONE.out)
  clear hin hold hB1 H5 H6 H6' hsrc hcell hM hget hcs hc hB0
  go_enter Yba.func3, Yba.ntmps3
  go_wp2_with fail
  rw [HCP.out, hlen]
  generalize (w.alloc (.cells (madeCells #[.int .u8 0] n) 5)).setCells w.heap.size 0 cs = W at *
  clear HCP HSRC HCELL HM HONE hmk hd0 hlen
  go_wp2_with fail
  refine HH5.out.mono ?_
  rintro e w2 ⟨rfl, rfl⟩
  go_wp2_with fail
  refine (HH6.out _).mono ?_
  rintro e w3 ⟨rfl, rfl⟩
  clear HH5 HH6
  have kk : (k != k) = false := by cases k <;> rfl
  go_wp2
  go_loopw [8] (fun i wr => ∃ (m q : Nat), m ≤ n ∧ i = .int .i64 m ∧ wr = w3.drewN q) (fun i _ => n - (intOf i).toNat)
  case atStart => exact ⟨0, 0, by omega, rfl, rfl⟩
  case round =>
    obtain ⟨m, q, hm, rfl, rfl⟩ := hrel
    by_cases hlt : m < n
    · have c1 := HOLD.out m hlt
      have c2 := HIN.out m hlt
      rw [Nat.zero_add] at c2
      go_wp2
      go_quiet (fail)
      go_wp2
      go_roundw
      case rel => exact ⟨m + 1, _, by omega, by go_num, rfl⟩
      case measure => simp [intOf]; omega
    · go_wp2
      go_ret
      exact ⟨rfl, HB1.out.trans ⟨rfl, rfl, rfl, Nat.le_refl _, fun _ _ => rfl⟩⟩

set_option maxRecDepth 100000 in
theorem model_long (a : Option Addr) (n cap : Nat) (w : World) (hn : 1024 < n) :
    Calls Yba.prog 3 #[.slice a n cap] w fun e w' => e = .returned (.bool true) ∧ Below w.heap.size w w' := by
  go_enter Yba.func3, Yba.ntmps3
  go_wp2
  go_ret
  exact ⟨rfl, Below.refl _ _⟩

set_option maxRecDepth 100000 in
set_option maxHeartbeats 4000000 in
theorem model_zero (a : Option Addr) (cap : Nat) (w : World) :
    Calls Yba.prog 3 #[.slice a 0 cap] w fun e w' => e = .returned (.bool true) ∧ Below w.heap.size w w' := by
  have hmk : ∀ w : World, (Instr.makeSlice 22 (.int .i64 0) (.int .i64 0)).run Yba.prog w = .ok (.slice (some ⟨w.heap.size, 0, none⟩) 0 0) (w.alloc (.cells (madeCells #[.int .u8 0] 0) 5)) := make_run 0 (by omega)
  have hB0 : Below w.heap.size w (w.alloc (.cells (madeCells #[.int .u8 0] 0) 5)) := (Below.refl _ _).alloc (Nat.le_refl _) _
  have HCP := hide (run_copy_none (P := Yba.prog) (w.alloc (.cells (madeCells #[.int .u8 0] 0) 5)) 22 22 3 5 (some ⟨w.heap.size, 0, none⟩) a 0 0 0 cap Yba.underlying22 info5 rfl)
  have HB0 := hide hB0
  have H5 := hide (fun W => parse_len a 0 cap W (.inl rfl))
  have H6 := hide (fun W c => model_len (some ⟨w.heap.size, 0, none⟩) 0 c W (.inl rfl))
  clear hB0
  go_enter Yba.func3, Yba.ntmps3
  go_wp2_with fail
  rw [HCP.out]
  generalize w.alloc (.cells (madeCells #[.int .u8 0] 0) 5) = W at *
  go_wp2_with fail
  refine (H5.out _).mono ?_
  rintro e w2 ⟨rfl, rfl⟩
  go_wp2_with fail
  refine (H6.out _ _).mono ?_
  rintro e w3 ⟨rfl, rfl⟩
  clear H5 H6
  go_wp2
  refine wp_loop_rounds 1 ?_
  rw [rounds_succ]
  go_wp2
  go_ret
  exact ⟨rfl, HB0.out⟩
end Go.Proofs.Ybulkbpgi
