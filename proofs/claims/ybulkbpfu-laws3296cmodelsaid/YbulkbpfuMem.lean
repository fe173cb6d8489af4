/-
  Memory by blocks, and a slice that lies at an offset in a block of its own.
-/
import Derived.Test.YbulkbpfuRows
import Derived.Test.YbulkbpfuDiv
import Derived.WalkKit
import Derived.ProofKit
import Derived.OpenShut
import Derived.ChangeOld
import Derived.Below
import Derived.WalkLawsBesides
import Derived.Laws.IdiomCopy
import Derived.ArgAppend
import Derived.Deep.OwnRows
import Derived.Deep.LoopGhost
import Derived.Deep.QuietTactic
import Derived.Deep.RegionWith
import Derived.Deep.RegionLaw
import Derived.Deep.RegionHeld3
import Derived.BigQuiet
namespace Go.Proofs.Ybulkbpfu
open Go.ChangeShapes Go.WideShapes Go.ChangeAt Go.RowKit
set_option linter.unusedVariables false

theorem hide {p : Prop} (h : p) : Hid p := h

/-- Block b holds just these cells, of type t, none frozen. -/
def Is (w : World) (b : Nat) (t : TypeId) (c : Array Value) : Prop := w.heap[b]? = some (.cells c t (0, 0))

theorem Is.cell {w : World} {b : Nat} {t : TypeId} {c : Array Value} (h : Is w b t c) (i : Nat) : w.cell? ⟨b, i, none⟩ = c[i]? := by
  unfold Is at h; simp [World.cell?, h]
theorem Is.frozen {w : World} {b : Nat} {t : TypeId} {c : Array Value} (h : Is w b t c) (i : Nat) : w.frozen? ⟨b, i, none⟩ = false := by
  unfold Is at h; simp [World.frozen?, h]
theorem Is.lt {w : World} {b : Nat} {t : TypeId} {c : Array Value} (h : Is w b t c) : b < w.heap.size := (Array.getElem?_eq_some_iff.1 h).1
theorem Is.set {w : World} {b : Nat} {t : TypeId} {c : Array Value} (h : Is w b t c) (i : Nat) (v : Value) : Is (w.setCell ⟨b, i, none⟩ v) b t (c.setIfInBounds i v) := by
  unfold Is at *; simp [World.setCell, Array.getElem?_modify, h]
theorem Is.other {w : World} {b : Nat} {t : TypeId} {c : Array Value} (h : Is w b t c) {b' : Nat} (hb : b ≠ b') (i : Nat) (v : Value) : Is (w.setCell ⟨b', i, none⟩ v) b t c := by
  unfold Is at *; rw [Below.heap_setCell _ _ _ _ hb]; exact h
theorem Is.alloc {w : World} {b : Nat} {t : TypeId} {c : Array Value} (h : Is w b t c) (o : Obj) : Is (w.alloc o) b t c := by
  have := h.lt
  unfold Is at *; rw [Below.heap_alloc _ _ _ this]; exact h
theorem Is.new (w : World) (t : TypeId) (c : Array Value) : Is (w.alloc (.cells c t)) w.heap.size t c := Deep.blk_alloc_new _ _
theorem Is.heap {w w' : World} {b : Nat} {t : TypeId} {c : Array Value} (h : Is w b t c) (e : w'.heap = w.heap) : Is w' b t c := by unfold Is at *; rw [e]; exact h

/-- A CALL LEAVES ALONE every block that was there and is not in S. -/
structure Kp (S : Nat → Prop) (w w' : World) : Prop where
  os : w'.os = w.os
  tape : w'.tape = w.tape
  output : w'.output = w.output
  size : w.heap.size ≤ w'.heap.size
  block : ∀ k, k < w.heap.size → ¬ S k → w'.heap[k]? = w.heap[k]?

theorem Kp.refl (S : Nat → Prop) (w : World) : Kp S w w := ⟨rfl, rfl, rfl, Nat.le_refl _, fun _ _ _ => rfl⟩
theorem Kp.trans {S : Nat → Prop} {a b c : World} (h : Kp S a b) (k : Kp S b c) : Kp S a c :=
  ⟨k.os.trans h.os, k.tape.trans h.tape, k.output.trans h.output, Nat.le_trans h.size k.size, fun i hi hs => (k.block i (Nat.lt_of_lt_of_le hi h.size) hs).trans (h.block i hi hs)⟩
theorem Kp.mono {S S' : Nat → Prop} {a b : World} (h : Kp S a b) (hs : ∀ k, S k → S' k) : Kp S' a b := ⟨h.os, h.tape, h.output, h.size, fun i hi hn => h.block i hi (fun x => hn (hs i x))⟩
/-- Blocks that were not there at the start may be written at will. -/
theorem Kp.drop {S S' : Nat → Prop} {a b c : World} (h : Kp S a b) (k : Kp S' b c) (hs : ∀ i, S' i → i < a.heap.size → S i) : Kp S a c :=
  ⟨k.os.trans h.os, k.tape.trans h.tape, k.output.trans h.output, Nat.le_trans h.size k.size, fun i hi hn => (k.block i (Nat.lt_of_lt_of_le hi h.size) (fun x => hn (hs i x hi))).trans (h.block i hi hn)⟩
theorem Kp.drew {S : Nat → Prop} {a b : World} (h : Kp S a b) : Kp S a b.drew := ⟨h.os, h.tape, h.output, h.size, h.block⟩
theorem Kp.drewN {S : Nat → Prop} {a b : World} (h : Kp S a b) (n : Nat) : Kp S a (b.drewN n) := ⟨h.os, h.tape, h.output, h.size, h.block⟩
theorem Kp.alloc {S : Nat → Prop} {a b : World} (h : Kp S a b) (o : Obj) : Kp S a (b.alloc o) :=
  h.trans ⟨rfl, rfl, rfl, by simp, fun k hk _ => Below.heap_alloc _ _ _ hk⟩
theorem Kp.set {S : Nat → Prop} {a b : World} (h : Kp S a b) {p : Addr} (hp : p.block < a.heap.size → S p.block) (v : Value) : Kp S a (b.setCell p v) :=
  ⟨h.os, h.tape, h.output, by simpa [World.setCell] using h.size, fun i hi hn => by
    rw [Below.heap_setCell _ _ _ _ (fun e => hn (by subst e; exact hp hi))]; exact h.block i hi hn⟩
theorem Kp.is {S : Nat → Prop} {w w' : World} (k : Kp S w w') {b : Nat} {t : TypeId} {c : Array Value} (h : Is w b t c) (hs : ¬ S b) : Is w' b t c := by
  have := k.block b h.lt hs
  unfold Is at *; rw [this]; exact h
theorem Kp.cell {S : Nat → Prop} {w w' : World} (k : Kp S w w') {b o : Nat} {v : Value} (h : w.cell? ⟨b, o, none⟩ = some v) (hs : ¬ S b) : w'.cell? ⟨b, o, none⟩ = some v :=
  (World.cell?_of_block (k.block b (World.block_lt_of_cell? w _ h) hs)).trans h
theorem Kp.below {S : Nat → Prop} {w w' : World} (k : Kp S w w') {B : Nat} (hB : B ≤ w.heap.size) (hs : ∀ i, S i → B ≤ i) : Below B w w' :=
  ⟨k.os, k.tape, k.output, k.size, fun i hi => k.block i (by omega) (fun x => by have := hs i x; omega)⟩
theorem Kp.row {S : Nat → Prop} {w w' : World} (k : Kp S w w') {base : Nat} {e : TypeId} {size : Nat} {v : Value} {n : Nat} {xs : List Value} (h : w.ownsRow base e size v n xs) (hs : ∀ g, v.ownBlock = some g → ¬ S g) : w'.ownsRow base e size v n xs := by
  refine ⟨h.1, ?_⟩
  rcases h.2 with hn | ⟨g, cap, cur, rfl, hb, hgg, rest⟩
  · exact .inl hn
  · refine .inr ⟨g, cap, cur, rfl, hb, ?_, rest⟩
    rw [k.block g (Array.getElem?_eq_some_iff.1 hgg).1 (hs g rfl)]
    exact hgg


/-- A SLICE OF n ELEMENTS OF 'size' CELLS EACH, AT AN OFFSET IN A BLOCK OF ITS OWN; its elements' cells are xs; its room lies in that block. -/
structure Row (w : World) (base : Nat) (e : TypeId) (size : Nat) (g off n cap : Nat) (xs : List Value) : Prop where
  len : xs.length = n * size
  base : base ≤ g
  room : n ≤ cap
  capm : cap ≤ maxLen
  blk : ∃ cur, w.heap[g]? = some (.cells cur e (0, 0)) ∧ off + cap * size ≤ cur.size ∧ ∀ j, j < n * size → cur[off + j]? = xs[j]?

theorem Row.lt {w : World} {base : Nat} {e : TypeId} {size g off n cap : Nat} {xs : List Value} (h : Row w base e size g off n cap xs) : g < w.heap.size := by
  obtain ⟨cur, hc, _⟩ := h.blk
  exact (Array.getElem?_eq_some_iff.1 hc).1
theorem Row.cell {w : World} {base : Nat} {e : TypeId} {size g off n cap : Nat} {xs : List Value} (h : Row w base e size g off n cap xs) (j : Nat) (hj : j < n * size) : w.cell? ⟨g, off + j, none⟩ = xs[j]? := by
  obtain ⟨cur, hc, _, hx⟩ := h.blk
  rw [← hx j hj]
  simp [World.cell?, hc]
theorem Row.cells {w : World} {base : Nat} {e : TypeId} {size g off n cap : Nat} {xs : List Value} (h : Row w base e size g off n cap xs) (j : Nat) (u : Value) (hu : xs[j]? = some u) : w.cell? ⟨g, off + j, none⟩ = some u := by
  rw [h.cell j (by rw [← h.len]; exact (List.getElem?_eq_some_iff.1 hu).1), hu]
theorem Row.spare {w : World} {base : Nat} {e : TypeId} {size g off n cap : Nat} {xs : List Value} (h : Row w base e size g off n cap xs) (m : Nat) (hm : n + m ≤ cap) (j : Nat) (hj : j < m * size) : (w.cell? ⟨g, off + n * size + j, none⟩).isSome = true ∧ w.frozen? ⟨g, off + n * size + j, none⟩ = false := by
  obtain ⟨cur, hc, hr, _⟩ := h.blk
  have h1 : n * size + m * size ≤ cap * size := by rw [← Nat.add_mul]; exact Nat.mul_le_mul_right _ hm
  constructor
  · simp [World.cell?, hc]; omega
  · simp [World.frozen?, hc]
theorem Row.kept {w w' : World} {base : Nat} {e : TypeId} {size g off n cap : Nat} {xs : List Value} {S : Nat → Prop} (h : Row w base e size g off n cap xs) (k : Kp S w w') (hs : ¬ S g) : Row w' base e size g off n cap xs :=
  ⟨h.len, h.base, h.room, h.capm, by obtain ⟨cur, hc, hr⟩ := h.blk; exact ⟨cur, (k.block g h.lt hs).trans hc, hr⟩⟩
/-- s[k:] -/
theorem Row.drop {w : World} {base : Nat} {e : TypeId} {size g off n cap : Nat} {xs : List Value} (h : Row w base e size g off n cap xs) (k : Nat) (hk : k ≤ n) : Row w base e size g (off + k * size) (n - k) (cap - k) (xs.drop (k * size)) := by
  obtain ⟨cur, hc, hr, hx⟩ := h.blk
  have hn := h.room
  have e1 : (n - k) * size = n * size - k * size := Nat.sub_mul _ _ _
  have e2 : (cap - k) * size = cap * size - k * size := Nat.sub_mul _ _ _
  have e3 : k * size ≤ cap * size := Nat.mul_le_mul_right _ (by omega)
  refine ⟨by rw [List.length_drop, h.len, e1], h.base, by omega, by have := h.capm; omega, cur, hc, by omega, fun j hj => ?_⟩
  rw [List.getElem?_drop, ← hx (k * size + j) (by omega), Nat.add_assoc]
/-- s[:0] -/
theorem Row.zero {w : World} {base : Nat} {e : TypeId} {size g off n cap : Nat} {xs : List Value} (h : Row w base e size g off n cap xs) : Row w base e size g off 0 cap [] := by
  obtain ⟨cur, hc, hr, _⟩ := h.blk
  exact ⟨by simp, h.base, by omega, h.capm, cur, hc, hr, fun j hj => by omega⟩
theorem setCells_blk {g : Nat} {e : TypeId} : ∀ (l : List Value) (o : Nat) (w : World) (cur : Array Value), w.heap[g]? = some (.cells cur e (0, 0)) → o + l.length ≤ cur.size →
    ∃ cur' : Array Value, (w.setCells g o l).heap[g]? = some (.cells cur' e (0, 0)) ∧ cur'.size = cur.size ∧ ∀ j, cur'[j]? = if o ≤ j ∧ j < o + l.length then l[j - o]? else cur[j]?
  | [], o, w, cur, h, _ => ⟨cur, h, rfl, fun j => by rw [if_neg (by simp)]⟩
  | v :: r, o, w, cur, h, hl => by
    have h1 : Is (w.setCell ⟨g, o, none⟩ v) g e (cur.setIfInBounds o v) := Is.set (show Is w g e cur from h) o v
    obtain ⟨cur', c1, c2, c3⟩ := setCells_blk r (o + 1) (w.setCell ⟨g, o, none⟩ v) (cur.setIfInBounds o v) h1 (by simp at hl ⊢; omega)
    refine ⟨cur', c1, by rw [c2]; simp, fun j => ?_⟩
    rw [c3 j]
    simp at hl
    by_cases hj : j = o
    · subst hj
      rw [if_neg (by omega), if_pos (by simp)]
      rw [Array.getElem?_setIfInBounds_self, if_pos (by omega)]
      simp
    · by_cases hj2 : o + 1 ≤ j ∧ j < o + 1 + r.length
      · rw [if_pos hj2, if_pos (by simp; omega), show j - o = (j - (o + 1)) + 1 by omega]
        simp
      · rw [if_neg hj2, if_neg (by simp; omega)]
        simp [Ne.symm hj]
/-- What append in place leaves. -/
theorem Row.put {w : World} {base : Nat} {e : TypeId} {size g off n cap m : Nat} {xs news : List Value} (h : Row w base e size g off n cap xs) (hm : n + m ≤ cap) (hn : news.length = m * size) : Row (w.setCells g (off + n * size) news) base e size g off (n + m) cap (xs ++ news) := by
  obtain ⟨cur, hc, hr, hx⟩ := h.blk
  have h1 : n * size + m * size ≤ cap * size := by rw [← Nat.add_mul]; exact Nat.mul_le_mul_right _ hm
  obtain ⟨cur', c1, c2, c3⟩ := setCells_blk news (off + n * size) w cur hc (by omega)
  refine ⟨by rw [List.length_append, h.len, hn, Nat.add_mul], h.base, hm, h.capm, cur', c1, by omega, fun j hj => ?_⟩
  rw [c3]
  rw [Nat.add_mul] at hj
  by_cases hj2 : j < n * size
  · rw [if_neg (by omega), List.getElem?_append_left (by rw [h.len]; exact hj2)]
    exact hx j hj2
  · rw [if_pos (by omega), List.getElem?_append_right (by rw [h.len]; omega), h.len]
    congr 1
    omega
theorem Row.of_own {w : World} {base b0 : Nat} {e : TypeId} {size n : Nat} {v : Value} {xs : List Value} (h : w.ownsRow b0 e size v n xs) (hb : base ≤ b0) (hn : 0 < n) : ∃ g cap, v = .slice (some ⟨g, 0, none⟩) n cap ∧ b0 ≤ g ∧ Row w base e size g 0 n cap xs := by
  rcases h.2 with ⟨_, h0⟩ | ⟨g, cap, cur, rfl, hg, hc, hr, hm, hs, hx⟩
  · omega
  · refine ⟨g, cap, rfl, hg, h.1, by omega, hr, hm, cur, hc, by omega, fun j hj => ?_⟩
    rw [← hx, List.getElem?_take_of_lt hj, Nat.zero_add, Array.getElem?_toList]
theorem Kp.setCells {S : Nat → Prop} {g : Nat} (hg : S g) : ∀ (l : List Value) (o : Nat) {a w : World}, Kp S a w → Kp S a (w.setCells g o l)
  | [], _, _, _, h => h
  | v :: r, o, _, _, h => Kp.setCells hg r (o + 1) (h.set (p := ⟨g, o, none⟩) (fun _ => hg) v)
theorem Kp.grown {X : Nat → Prop} {a b c : World} {row : Option Nat} (h : Kp X a b) (hg : b.grownBy c row) (hr : ∀ k, row = some k → k < a.heap.size → X k) : Kp X a c :=
  ⟨hg.os.trans h.os, hg.tape.trans h.tape, hg.output.trans h.output, Nat.le_trans h.size hg.size, fun k hk hn => (hg.block k (Nat.lt_of_lt_of_le hk h.size) (fun e => hn (hr k e.symm hk))).trans (h.block k hk hn)⟩
end Go.Proofs.Ybulkbpfu
