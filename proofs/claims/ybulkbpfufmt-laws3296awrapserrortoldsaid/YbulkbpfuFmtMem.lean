/-
  Memory for the two laws of beast: what a block holds ('Is'), what a call leaves alone ('Kp'), two laws on the builtin copy inside a region that draws.
-/
import Derived.Test.YbulkbpfuFmtRows
import Derived.WalkKit
import Derived.ProofKit
import Derived.OpenShut
import Derived.ChangeOld
import Derived.Below
import Derived.LaidEql
import Derived.WalkLawsBesides
import Derived.Laws.CopyOwn
import Derived.Laws.IdiomCopy
import Derived.Deep.OwnRows
import Derived.Deep.LoopGhost
import Derived.Deep.QuietTactic
import Derived.Deep.RegionWith
import Derived.Deep.RegionLaw
import Derived.BigQuiet
namespace Go.Proofs.YbulkbpfuFmt
open Go.ChangeShapes Go.WideShapes Go.ChangeAt Go.RowKit
set_option linter.unusedVariables false

theorem hide {p : Prop} (h : p) : Hid p := h

/-- Block b holds just these cells, of type t, none frozen. -/
def Is (w : World) (b : Nat) (t : TypeId) (c : Array Value) : Prop := w.heap[b]? = some (.cells c t (0, 0))

theorem Is.cell {w : World} {b : Nat} {t : TypeId} {c : Array Value} (h : Is w b t c) (i : Nat) : w.cell? ⟨b, i, none⟩ = c[i]? := by
  unfold Is at h; simp [World.cell?, h]
theorem Is.frozen {w : World} {b : Nat} {t : TypeId} {c : Array Value} (h : Is w b t c) (i : Nat) : w.frozen? ⟨b, i, none⟩ = false := by
  unfold Is at h; simp [World.frozen?, h]
theorem Is.lt {w : World} {b : Nat} {t : TypeId} {c : Array Value} (h : Is w b t c) : b < w.heap.size := (Array.getElem?_eq_some_iff.1 h).1
theorem Is.set {w : World} {b : Nat} {t : TypeId} {c : Array Value} (h : Is w b t c) (i : Nat) (v : Value) : Is (w.setCell ⟨b, i, none⟩ v) b t (c.setIfInBounds i v) := by
  unfold Is at *; simp [World.setCell, Array.getElem?_modify, h]
theorem Is.other {w : World} {b : Nat} {t : TypeId} {c : Array Value} (h : Is w b t c) {b' : Nat} (hb : b ≠ b') (i : Nat) (v : Value) : Is (w.setCell ⟨b', i, none⟩ v) b t c := by
  unfold Is at *; rw [Below.heap_setCell _ _ _ _ hb]; exact h
theorem Is.alloc {w : World} {b : Nat} {t : TypeId} {c : Array Value} (h : Is w b t c) (o : Obj) : Is (w.alloc o) b t c := by
  have := h.lt
  unfold Is at *; rw [Below.heap_alloc _ _ _ this]; exact h
theorem Is.new (w : World) (t : TypeId) (c : Array Value) : Is (w.alloc (.cells c t)) w.heap.size t c := Deep.blk_alloc_new _ _
theorem Is.heap {w w' : World} {b : Nat} {t : TypeId} {c : Array Value} (h : Is w b t c) (e : w'.heap = w.heap) : Is w' b t c := by unfold Is at *; rw [e]; exact h

/-- A CALL LEAVES ALONE every block that was there and is not in S. -/
structure Kp (S : Nat → Prop) (w w' : World) : Prop where
  os : w'.os = w.os
  tape : w'.tape = w.tape
  output : w'.output = w.output
  size : w.heap.size ≤ w'.heap.size
  block : ∀ k, k < w.heap.size → ¬ S k → w'.heap[k]? = w.heap[k]?

theorem Kp.refl (S : Nat → Prop) (w : World) : Kp S w w := ⟨rfl, rfl, rfl, Nat.le_refl _, fun _ _ _ => rfl⟩
theorem Kp.trans {S : Nat → Prop} {a b c : World} (h : Kp S a b) (k : Kp S b c) : Kp S a c :=
  ⟨k.os.trans h.os, k.tape.trans h.tape, k.output.trans h.output, Nat.le_trans h.size k.size, fun i hi hs => (k.block i (Nat.lt_of_lt_of_le hi h.size) hs).trans (h.block i hi hs)⟩
theorem Kp.mono {S S' : Nat → Prop} {a b : World} (h : Kp S a b) (hs : ∀ k, S k → S' k) : Kp S' a b := ⟨h.os, h.tape, h.output, h.size, fun i hi hn => h.block i hi (fun x => hn (hs i x))⟩
/-- Blocks that were not there at the start may be written at will. -/
theorem Kp.drop {S S' : Nat → Prop} {a b c : World} (h : Kp S a b) (k : Kp S' b c) (hs : ∀ i, S' i → i < a.heap.size → S i) : Kp S a c :=
  ⟨k.os.trans h.os, k.tape.trans h.tape, k.output.trans h.output, Nat.le_trans h.size k.size, fun i hi hn => (k.block i (Nat.lt_of_lt_of_le hi h.size) (fun x => hn (hs i x hi))).trans (h.block i hi hn)⟩
theorem Kp.drew {S : Nat → Prop} {a b : World} (h : Kp S a b) : Kp S a b.drew := ⟨h.os, h.tape, h.output, h.size, h.block⟩
theorem Kp.drewN {S : Nat → Prop} {a b : World} (h : Kp S a b) (n : Nat) : Kp S a (b.drewN n) := ⟨h.os, h.tape, h.output, h.size, h.block⟩
theorem Kp.alloc {S : Nat → Prop} {a b : World} (h : Kp S a b) (o : Obj) : Kp S a (b.alloc o) :=
  h.trans ⟨rfl, rfl, rfl, by simp, fun k hk _ => Below.heap_alloc _ _ _ hk⟩
theorem Kp.set {S : Nat → Prop} {a b : World} (h : Kp S a b) {p : Addr} (hp : p.block < a.heap.size → S p.block) (v : Value) : Kp S a (b.setCell p v) :=
  ⟨h.os, h.tape, h.output, by simpa [World.setCell] using h.size, fun i hi hn => by
    rw [Below.heap_setCell _ _ _ _ (fun e => hn (by subst e; exact hp hi))]; exact h.block i hi hn⟩
theorem Kp.is {S : Nat → Prop} {w w' : World} (k : Kp S w w') {b : Nat} {t : TypeId} {c : Array Value} (h : Is w b t c) (hs : ¬ S b) : Is w' b t c := by
  have := k.block b h.lt hs
  unfold Is at *; rw [this]; exact h
theorem Kp.cell {S : Nat → Prop} {w w' : World} (k : Kp S w w') {b o : Nat} {v : Value} (h : w.cell? ⟨b, o, none⟩ = some v) (hs : ¬ S b) : w'.cell? ⟨b, o, none⟩ = some v :=
  (World.cell?_of_block (k.block b (World.block_lt_of_cell? w _ h) hs)).trans h
theorem Kp.below {S : Nat → Prop} {w w' : World} (k : Kp S w w') {B : Nat} (hB : B ≤ w.heap.size) (hs : ∀ i, S i → B ≤ i) : Below B w w' :=
  ⟨k.os, k.tape, k.output, k.size, fun i hi => k.block i (by omega) (fun x => by have := hs i x; omega)⟩
theorem Kp.row {S : Nat → Prop} {w w' : World} (k : Kp S w w') {base : Nat} {e : TypeId} {size : Nat} {v : Value} {n : Nat} {xs : List Value} (h : w.ownsRow base e size v n xs) (hs : ∀ g, v.ownBlock = some g → ¬ S g) : w'.ownsRow base e size v n xs := by
  refine ⟨h.1, ?_⟩
  rcases h.2 with hn | ⟨g, cap, cur, rfl, hb, hgg, rest⟩
  · exact .inl hn
  · refine .inr ⟨g, cap, cur, rfl, hb, ?_, rest⟩
    rw [k.block g (Array.getElem?_eq_some_iff.1 hgg).1 (hs g rfl)]
    exact hgg

/-! ### the builtin copy inside a region that draws -/
theorem step_copy_none {P : Program} {ops : Array Oper} {o : Oper} {a : Act} {w : World} {K : Act → World → Prop} {Q : Exit → Act → World → Prop} {E : Prop} (hgd : o.guard = none) (d s : Operand) (dT sT : TypeId)
    (ho : o.op = .call { callee := .builtin .copy, args := #[d, s], argTypes := #[dT, sT] }) (elem : TypeId) (hu : P.underlying dT = some (.slice elem)) (hsz : (P.info? elem).map (·.size) = some 1)
    (dp sp : Option Addr) (dLen dCap sLen sCap : Nat) (hd : a.eval d = .slice dp dLen dCap) (hs : a.eval s = .slice sp sLen sCap) (hn : Nat.min sLen dLen = 0)
    (h : K (a.put o.dst (goInt 0)) w) : if Region.wanted o (yielded ops a.tmps) = true then Oper.wp P o a w K Q else E := by
  have hw : Region.wanted o (yielded ops a.tmps) = true := by simp [Region.wanted, hgd]
  rw [if_pos hw]
  have hrun := run_copy_none (P := P) w dT sT o.type elem dp sp dLen dCap sLen sCap hu hsz hn
  unfold Oper.wp
  simp [execOp, ho, resolve, invoke, builtin, hd, hs, hrun, Result.andThen]
  exact h
theorem step_copy_cells {P : Program} {ops : Array Oper} {o : Oper} {a : Act} {w : World} {K : Act → World → Prop} {Q : Exit → Act → World → Prop} {E : Prop} (hgd : o.guard = none) (d s : Operand) (dT sT : TypeId)
    (ho : o.op = .call { callee := .builtin .copy, args := #[d, s], argTypes := #[dT, sT] }) (elem : TypeId) (hu : P.underlying dT = some (.slice elem)) (hsz : (P.info? elem).map (·.size) = some 1)
    (b off dLen dCap : Nat) (ad : Addr) (sLen sCap : Nat) (cs : List Value) (hd : a.eval d = .slice (some ⟨b, off, none⟩) dLen dCap) (hs : a.eval s = .slice (some ad) sLen sCap) (hn : cs.length = Nat.min sLen dLen)
    (hsrc : ∀ j v, cs[j]? = some v → w.cell? (ad.add j) = some v) (hc : ∀ j, j < cs.length → (w.cell? ⟨b, off + j, none⟩).isSome = true) (hf : ∀ j, j < cs.length → w.frozen? ⟨b, off + j, none⟩ = false) (h1 : ∀ v ∈ cs, v.oneCell' = true)
    (h : K (a.put o.dst (goInt cs.length)) (w.setCells b off cs)) : if Region.wanted o (yielded ops a.tmps) = true then Oper.wp P o a w K Q else E := by
  have hw : Region.wanted o (yielded ops a.tmps) = true := by simp [Region.wanted, hgd]
  rw [if_pos hw]
  have hrun := run_copy_cells (P := P) w dT sT o.type elem b off dLen dCap ad sLen sCap cs hu hsz hn hsrc hc hf h1
  unfold Oper.wp
  simp [execOp, ho, resolve, invoke, builtin, hd, hs, hrun, Result.andThen]
  exact h
end Go.Proofs.YbulkbpfuFmt
