/-
  'Rows.LawS3294CScriptSaid' PROVED: the shell written by program (proof-skeleton.mjs), its walk filled; the row's step says 'Below' in the place of 'Grown', for behind an append that grows the world is not written out.
-/
import Derived.Test.YbulkbpesRows
import Derived.WalkKit
import Derived.ProofKit
import Derived.OpenShut
import Derived.ShutString
import Derived.ChangeOld
import Derived.Below
import Derived.Deep.OwnRows
import Derived.Deep.LoopGhost
import Derived.Deep.QuietTactic
import Derived.BigQuiet
namespace Go.Proofs.Ybulkbpes.lawS3294CScript
open Go.ChangeShapes Go.WideShapes Go.ChangeAt Go.RowKit
open Go.ChangeMaps (open_string shut_string)
set_option linter.unusedVariables false      -- a walk need not use every 'w<i>' (that an integer argument fits its kind)

theorem own : ownKnob Yba.prog.godebug = none := by kernel_rfl

theorem info25 : (Yba.prog.info? 25).map (fun i => (i.zero, i.size, i.bytes)) = some (some (.agg #[.string ByteArray.empty, .int .i64 0, .int .i64 0]), 3, 32) := by kernel_rfl

/-- What newStream leaves: the struct at block S, its row of starts at block g. -/
structure Fresh (w w' : World) (nm : ByteArray) (g S : Nat) : Prop where
  below : Below w.heap.size w w'
  hg : w.heap.size ≤ g
  hgS : g < S
  hS : S < w'.heap.size
  starts : w'.ownsRow w.heap.size 25 3 (.slice (some ⟨g, 0, none⟩) 1 1) 1 [.string nm, .int .i64 0, .int .i64 1]
  c5 : w'.cell? ⟨S, 5, none⟩ = some (.bool false)
  c8 : w'.cell? ⟨S, 8, none⟩ = some (.int .i64 0)
  c11 : w'.cell? ⟨S, 11, none⟩ = some (.slice (some ⟨g, 0, none⟩) 1 1)
  f5 : w'.frozen? ⟨S, 5, none⟩ = false
  f8 : w'.frozen? ⟨S, 8, none⟩ = false
  f11 : w'.frozen? ⟨S, 11, none⟩ = false
  tag : ∃ c, w'.heap[S]? = some (.cells c 34 (0, 0))

theorem tag_new (w : World) (c : Array Value) (S : Nat) (h : S = w.heap.size) : (w.alloc (.cells c 34)).drew.heap[S]? = some (.cells c 34 (0, 0)) := by
  subst h; exact Deep.blk_alloc_new _ _

set_option maxHeartbeats 1000000 in
theorem newStream_any (nm : ByteArray) (b : Nat) (w : World) (c0 : w.cell? ⟨b, 0, none⟩ = some (.string nm)) :
    Calls Yba.prog 6 #[.slice (some ⟨b, 0, none⟩) 1 1, .int .i64 8] w fun e w' => ∃ g S : Nat, e = .returned (.pointer (some ⟨S, 0, none⟩)) ∧ Fresh w w' nm g S := by
  have hmk : ∀ w, (Instr.makeSlice 29 (.int .i64 0) (.int .i64 8)).run Yba.prog w = .ok (.slice (some ⟨w.heap.size, 0, none⟩) 0 8) (w.alloc (.cells #[.int .u8 0, .int .u8 0, .int .u8 0, .int .u8 0, .int .u8 0, .int .u8 0, .int .u8 0, .int .u8 0] 5)) := fun _ => by kernel_rfl
  have hb := World.block_lt_of_cell? w _ c0
  have c1 : ∀ o, (w.alloc o).cell? ⟨b, 0, none⟩ = some (.string nm) := fun o => by rw [World.cell?_alloc_past _ _ _ hb]; exact c0
  have c2 : ∀ o o', ((w.alloc o).alloc o').cell? ⟨b, 0, none⟩ = some (.string nm) := fun o o' => by rw [World.cell?_alloc_past _ _ _ (by simp; exact Nat.lt_succ_of_lt hb)]; exact c1 o
  go_enter Yba.func6, Yba.ntmps6
  go_wp2
  go_region
  all_goals go_wp2
  · go_ret
    refine ⟨w.heap.size + 1, w.heap.size + 1 + 1, rfl, ?_⟩
    have own := ((World.ownsRow_lit (base := w.heap.size) (e := 25) (size := 3) (w.alloc (.cells #[.int .u8 0, .int .u8 0, .int .u8 0, .int .u8 0, .int .u8 0, .int .u8 0, .int .u8 0, .int .u8 0] 5)) #[.string nm, .int .i64 0, .int .i64 1] 1 (by simp) (by decide) rfl).alloc (.cells #[Value.slice (some ⟨b, 0, none⟩) 1 1, .int .i64 0, .pointer none, .slice (some ⟨w.heap.size, 0, none⟩) 0 8, .int .i64 0, .bool false, .nilIface, .int .i64 0, .int .i64 0, .int .i64 0, .bool false, .slice (some ⟨w.heap.size + 1, 0, none⟩) 1 1, .int .i64 0, .int .i64 0, .int .i64 0, .slice none 0 0] 34)).drew
    refine ⟨((((Below.refl _ _).alloc (Nat.le_refl _) _).alloc (by simp) _).alloc (by simp; omega) _).drew, by omega, by omega, by simp, ?_, ?_, ?_, ?_, ?_, ?_, ?_, ⟨_, tag_new _ _ _ (by simp)⟩⟩
    · simpa using own
    all_goals simp [go_sem]
  · go_ret
    refine ⟨w.heap.size, w.heap.size + 1 + 1, rfl, ?_⟩
    have own := (((World.ownsRow_lit (base := w.heap.size) (e := 25) (size := 3) w #[.string nm, .int .i64 0, .int .i64 1] 1 (by simp) (by decide) rfl).alloc (.cells #[.int .u8 0, .int .u8 0, .int .u8 0, .int .u8 0, .int .u8 0, .int .u8 0, .int .u8 0, .int .u8 0] 5)).alloc (.cells #[Value.slice (some ⟨b, 0, none⟩) 1 1, .int .i64 0, .pointer none, .slice (some ⟨w.heap.size + 1, 0, none⟩) 0 8, .int .i64 0, .bool false, .nilIface, .int .i64 0, .int .i64 0, .int .i64 0, .bool false, .slice (some ⟨w.heap.size, 0, none⟩) 1 1, .int .i64 0, .int .i64 0, .int .i64 0, .slice none 0 0] 34)).drew
    refine ⟨((((Below.refl _ _).alloc (Nat.le_refl _) _).alloc (by simp) _).alloc (by simp; omega) _).drew, by omega, by omega, by simp, ?_, ?_, ?_, ?_, ?_, ?_, ?_, ⟨_, tag_new _ _ _ (by simp)⟩⟩
    · simpa using own
    all_goals simp [go_sem]

set_option maxHeartbeats 1000000 in
theorem walk_short (a0 : ByteArray) (a1 : Bool) (a2 : Int) (a4 : Int) (w0 : a0.size ≤ maxLen) (w : World) :
    Calls Yba.prog 4 #[.string a0, .bool a1, .int .i64 a2, .bool false, .int .i64 a4] w fun e w' => e = .returned (.bool true) ∧ Below w.heap.size w w' := by
  cases a1
  all_goals
    go_enter Yba.func4, Yba.ntmps4
    go_wp2_with fail
    refine (newStream_any a0 _ _ (by simp [go_sem])).mono ?_
    rintro e w1 ⟨g, S, rfl, ⟨hbel, hg, hgS, hS, hown, c5, c8, c11, f5, f8, f11, htag⟩⟩
    have e0 : w1.cell? ⟨g, 0, none⟩ = some (.string a0) := hown.cellAt 0 (by omega)
    have e1 : w1.cell? ⟨g, 1, none⟩ = some (.int .i64 0) := hown.cellAt 1 (by omega)
    have e2 : w1.cell? ⟨g, 2, none⟩ = some (.int .i64 1) := hown.cellAt 2 (by omega)
    go_wp2
    go_ret
    have hb1 : Below w.heap.size w w1 := ((Below.refl _ _).alloc (Nat.le_refl _) _).trans (hbel.mono (by simp))
    simp at hg
    first
      | exact ⟨rfl, hb1⟩
      | exact ⟨rfl, (hb1.setCell (by simp; omega) _).setCell (by simp; omega) _⟩

theorem two_sets (w : World) (S : Nat) (a2 : Int) : w.grownBy ((w.setCell ⟨S, 5, none⟩ (.bool true)).setCell ⟨S, 8, none⟩ (.int .i64 a2)) (some S) :=
  ⟨rfl, rfl, rfl, by simp [World.setCell], fun k _ hk => by rw [Below.heap_setCell _ _ _ _ (fun e => hk (by simp [e])), Below.heap_setCell _ _ _ _ (fun e => hk (by simp [e]))]⟩
theorem own_kept {w : World} {base g S : Nat} {xs : List Value} {a2 : Int} (h : w.ownsRow base 25 3 (.slice (some ⟨g, 0, none⟩) 1 1) 1 xs) (hgS : g < S) :
    ((w.setCell ⟨S, 5, none⟩ (.bool true)).setCell ⟨S, 8, none⟩ (.int .i64 a2)).ownsRow base 25 3 (.slice (some ⟨g, 0, none⟩) 1 1) 1 xs :=
  h.kept (two_sets w S a2) (.inr (by simp [Value.ownBlock]; omega))
theorem tag_set {w : World} {S : Nat} (b o : Nat) (v : Value) (h : ∃ c, w.heap[S]? = some (.cells c 34 (0, 0))) : ∃ c, (w.setCell ⟨b, o, none⟩ v).heap[S]? = some (.cells c 34 (0, 0)) := by
  obtain ⟨c, hc⟩ := h
  by_cases e : S = b
  · subst e; exact ⟨c.setIfInBounds o v, by simp [World.setCell, Array.getElem?_modify, hc]⟩
  · exact ⟨c, by rw [Below.heap_setCell _ _ _ _ e]; exact hc⟩
theorem tag_alloc {w : World} {S : Nat} (x : Obj) (h : ∃ c, w.heap[S]? = some (.cells c 34 (0, 0))) : ∃ c, (w.alloc x).heap[S]? = some (.cells c 34 (0, 0)) := by
  obtain ⟨c, hc⟩ := h
  exact ⟨c, by rw [Below.heap_alloc _ _ _ (Array.getElem?_eq_some_iff.1 hc).1]; exact hc⟩

/-- Behind the append: where the new row lies, what it holds; the struct's block is as it was. -/
theorem behind {w2 w' : World} {base g S : Nat} {nm : ByteArray} {a4 : Int} {v' : Value} (hsz : S < w2.heap.size) (tag : ∃ c, w2.heap[S]? = some (.cells c 34 (0, 0))) (hgS : g < S)
    (hown : w'.ownsRow base 25 3 v' 2 [.string nm, .int .i64 0, .int .i64 1, .string ⟨#[98]⟩, .int .i64 a4, .int .i64 2])
    (hg : w2.grownBy w' (Value.slice (some ⟨g, 0, none⟩) 1 1).ownBlock) (hn : ¬ v' = .slice none 0 0) :
    ∃ g' cap, v' = .slice (some ⟨g', 0, none⟩) 2 cap ∧ g' ≠ S ∧ S < w'.heap.size ∧ w'.cell? ⟨g', 0, none⟩ = some (.string nm) ∧ w'.cell? ⟨g', 1, none⟩ = some (.int .i64 0) ∧ w'.cell? ⟨g', 2, none⟩ = some (.int .i64 1) ∧ w'.cell? ⟨g', 4, none⟩ = some (.int .i64 a4) ∧
      (∀ o, w'.cell? ⟨S, o, none⟩ = w2.cell? ⟨S, o, none⟩) ∧ (∀ o, w'.frozen? ⟨S, o, none⟩ = w2.frozen? ⟨S, o, none⟩) := by
  have hb : w'.heap[S]? = w2.heap[S]? := hg.block S hsz (by simp [Value.ownBlock]; omega)
  rcases hown.2 with ⟨h, _⟩ | ⟨g', cap, cur, rfl, hbg, hgg, _⟩
  · exact absurd h hn
  · refine ⟨g', cap, rfl, ?_, Nat.lt_of_lt_of_le hsz hg.size, hown.cellAt 0 (by omega), hown.cellAt 1 (by omega), hown.cellAt 2 (by omega), hown.cellAt 4 (by omega), fun o => World.cell?_of_block hb, fun o => World.frozen?_of_block hb⟩
    rintro rfl
    obtain ⟨c, hc⟩ := tag
    rw [hb, hc] at hgg
    simp at hgg

set_option maxHeartbeats 1000000 in
theorem walk_more (a0 : ByteArray) (a1 : Bool) (a2 : Int) (a4 : Int) (w0 : a0.size ≤ maxLen) (w : World) :
    Calls Yba.prog 4 #[.string a0, .bool a1, .int .i64 a2, .bool true, .int .i64 a4] w fun e w' => e = .returned (.bool true) ∧ Below w.heap.size w w' := by
  obtain ⟨i0, hi, hz0, hz1, hz2⟩ := info_parts info25
  cases a1
  all_goals
    go_enter Yba.func4, Yba.ntmps4
    go_wp2_with fail
    refine (newStream_any a0 _ _ (by simp [go_sem])).mono ?_
    rintro e w1 ⟨g, S, rfl, ⟨hbel, hg, hgS, hS, hown, c5, c8, c11, f5, f8, f11, htag⟩⟩
    have hown2 : ((w1.setCell ⟨S, 5, none⟩ (.bool true)).setCell ⟨S, 8, none⟩ (.int .i64 a2)).ownsRow _ 25 3 (.slice (some ⟨g, 0, none⟩) 1 1) 1 [.string a0, .int .i64 0, .int .i64 1] := own_kept hown hgS
    have hb1 : Below w.heap.size w w1 := ((Below.refl _ _).alloc (Nat.le_refl _) _).trans (hbel.mono (by simp))
    have hszw := hbel.size
    go_wp2_with (first
      | (at_builtin; refine wpList_append_own _ rfl _ _ 23 rfl _ 25 i0 _ 3 32 Yba.underlying23 hi hz0 hz1 hz2 rfl (by decide) _ 1 [.string a0, .int .i64 0, .int .i64 1] rfl (hown.alloc _) ⟨w1.heap.size, 0, none⟩ 1 1 [.string ⟨#[98]⟩, .int .i64 a4, .int .i64 2] rfl rfl ?c1 ?c2 ?c3 ?c4 ?c5 ?_)
      | (at_builtin; refine wpList_append_own _ rfl _ _ 23 rfl _ 25 i0 _ 3 32 Yba.underlying23 hi hz0 hz1 hz2 rfl (by decide) _ 1 [.string a0, .int .i64 0, .int .i64 1] rfl (hown2.alloc _) ⟨w1.heap.size, 0, none⟩ 1 1 [.string ⟨#[98]⟩, .int .i64 a4, .int .i64 2] rfl rfl ?c1 ?c2 ?c3 ?c4 ?c5 ?_)
      | go_in)
    case c1 =>
      intro j u hj
      match j, hj with
      | 0, hj => simp at hj; subst hj; simp [Addr.add, go_sem]
      | 1, hj => simp at hj; subst hj; simp [Addr.add, go_sem]
      | 2, hj => simp at hj; subst hj; simp [Addr.add, go_sem]
    case c2 => intro u hu; simp at hu; rcases hu with rfl | rfl | rfl <;> rfl
    case c3 => decide
    case c4 => decide
    case c5 => simp at hszw ⊢; omega
    intro v' w' hown' hgrow hn
    obtain ⟨g', cap, hv, hne, hS', e0, e1, e2, e4, kc, kf⟩ := behind (by simp; omega) (by first | exact tag_alloc _ htag | exact tag_alloc _ (tag_set _ _ _ (tag_set _ _ _ htag))) hgS hown' hgrow hn
    rw [hv]
    have k11 : w'.cell? ⟨S, 11, none⟩ = some (.slice (some ⟨g, 0, none⟩) 1 1) := by rw [kc]; rw [World.cell?_alloc_past _ _ _ (by first | exact hS | (simp; exact hS))]; simp [c11, go_sem]
    have kf11 : w'.frozen? ⟨S, 11, none⟩ = false := by rw [kf]; simp [f11, hS, go_sem]
    have hb2 : Below w.heap.size w w' := by
      first
        | exact (hb1.alloc hb1.size _).grown hgrow (by simp; have := hb1.size; omega) (fun k hk => by simp [Value.ownBlock] at hk; simp at hg; omega)
        | exact (((hb1.setCell (by simp at hg ⊢; omega) _).setCell (by simp at hg ⊢; omega) _).alloc (by simp; exact hb1.size) _).grown hgrow (by simp; have := hb1.size; omega) (fun k hk => by simp [Value.ownBlock] at hk; simp at hg; omega)
    have hSw : w.heap.size ≤ S := by simp at hg; omega
    clear kc kf hown' hgrow hn hown hown2 hb1 hbel c5 c8 c11 f5 f8 f11 htag hv
    go_wp2
    go_ret
    exact ⟨rfl, hb2.setCell (by exact hSw) _⟩

theorem walk (a0 : ByteArray) (a1 : Bool) (a2 : Int) (a3 : Bool) (a4 : Int) (w0 : a0.size ≤ maxLen) (w2 : (Lit.int .i64 a2).wf = true) (w4 : (Lit.int .i64 a4).wf = true) (w : World) :
    Calls Yba.prog 4 #[.string a0, .bool a1, .int .i64 a2, .bool a3, .int .i64 a4] w fun e w' => e = .returned (.bool true) ∧ Below w.heap.size w w' := by
  cases a3
  · exact walk_short a0 a1 a2 a4 w0 w
  · exact walk_more a0 a1 a2 a4 w0 w

/-! ### THE ROW's STEP: WRITTEN OUT: LEAVE IT -/
set_option maxRecDepth 100000 in
theorem lifted (os : Os) (started : os.Started) (H : Type) (enc : TypeId × Value → H) :
    ReturnsInHanded {} Yba.checked os 4 .any (Rows.lawS3294CScriptSpec.pre6 enc Yba.prog Yba.f4 Rows.lawS3294CScriptRow.domain false) (Rows.lawS3294CScriptSpec.post enc Yba.prog Yba.f4 false true false false) := by
  refine returnsInHanded_of_change (C := Yba.checked) own started (by kernel_rfl) Yba.func4
    (ChangeSpec.witness6 (enc := enc) (C := Yba.checked) false ⟨#[], #[.string ByteArray.empty, .bool false, .int .i64 0, .bool false, .int .i64 0], []⟩ 8 (by kernel_rfl) (by kernel_rfl) (by kernel_rfl) (by kernel_rfl)) ?_
  intro W base args ds gs before hval0 hW hcnd _
  have hval : ∀ (j : Nat) t v, Yba.f4.params[j]? = some t → args[j]? = some v → Value.okWide Yba.prog W .any base t v := hval0
  have hW' := hW
  obtain ⟨p, q, hA0, hV, rfl, hfz, hnd⟩ := hW
  have hA : DataW.TrodAll enc Yba.prog W 0 (fun _ => true) true Yba.f4.params.toList args.toList ds p := hA0
  rw [Yba.params4] at hA hval
  obtain ⟨v0, vs0, d0, ds0, p0, q0, hargs, rfl, rfl, h0, r0⟩ := trodAll_cons hA
  obtain ⟨v1, vs1, d1, ds1, p1, q1, rfl, rfl, rfl, h1, r1⟩ := trodAll_cons r0
  obtain ⟨v2, vs2, d2, ds2, p2, q2, rfl, rfl, rfl, h2, r2⟩ := trodAll_cons r1
  obtain ⟨v3, vs3, d3, ds3, p3, q3, rfl, rfl, rfl, h3, r3⟩ := trodAll_cons r2
  obtain ⟨v4, vs4, d4, ds4, p4, q4, rfl, rfl, rfl, h4, r4⟩ := trodAll_cons r3
  obtain ⟨rfl, rfl, rfl⟩ := trodAll_nil r4
  obtain rfl : args = #[v0, v1, v2, v3, v4] := by cases args; simp_all
  obtain ⟨rfl, rfl⟩ := trodVars_none hV
  obtain ⟨a0, rfl, rfl, rfl, w0⟩ := open_string Yba.underlying9 (hval 0 9 v0 rfl rfl) h0
  obtain ⟨a1, rfl, rfl, rfl⟩ := open_bool Yba.underlying4 (hval 1 4 v1 rfl rfl) h1
  obtain ⟨a2, rfl, rfl, rfl, w2⟩ := open_int Yba.underlying3 (hval 2 3 v2 rfl rfl) h2
  obtain ⟨a3, rfl, rfl, rfl⟩ := open_bool Yba.underlying4 (hval 3 4 v3 rfl rfl) h3
  obtain ⟨a4, rfl, rfl, rfl, w4⟩ := open_int Yba.underlying3 (hval 4 3 v4 rfl rfl) h4
  clear hA0 hval0
  simp only [List.append_nil] at hW'
  refine (walk a0 a1 a2 a3 a4 w0 w2 w4 W).mono fun e W' ⟨he, bel⟩ => ?_
  subst he
  exact ⟨_, rfl, _, _, _, [], _, [], hW', trodAll_mk1 (shut_bool Yba.underlying4 _), (trodAll_cons_mk (shut_string Yba.underlying9 w0) (trodAll_cons_mk (shut_bool Yba.underlying4 _) (trodAll_cons_mk (shut_int Yba.underlying3 w2) (trodAll_cons_mk (shut_bool Yba.underlying4 _) (trodAll_cons_mk (shut_int Yba.underlying3 w4) trodAll_mk0))))), rfl, bel.frame _, fun h => by cases h⟩

theorem over : Rows.lawS3294CScriptRow.holds Yba.pinned (OpenSpec.ofChange Rows.lawS3294CScriptSpec) :=
  OpenClaim.holds_of_wide 4 Yba.f4 rfl rfl rfl rfl rfl rfl rfl ⟨rfl, rfl, rfl, rfl, rfl⟩ rfl rfl rfl rfl rfl (by kernel_rfl) Yba.func4 (by kernel_rfl)
    (of_decide_eq_true (by kernel_rfl)) (by unfold Func.isWrapper; first | (rw [if_pos (by decide +kernel)]; kernel_rfl) | (rw [if_neg (by decide +kernel)]; exact ⟨rfl, rfl⟩))
    (fun os started H enc _ => lifted os started H enc)

/-- ████ THE STATEMENT ████ -/
theorem proved : Rows.LawS3294CScriptSaid :=
  over
#print axioms proved
end Go.Proofs.Ybulkbpes.lawS3294CScript

namespace Go.Proofs.Ybulkbpes
theorem lawS3294CScript_holds : Rows.LawS3294CScriptSaid := lawS3294CScript.proved
#print axioms lawS3294CScript_holds
end Go.Proofs.Ybulkbpes
