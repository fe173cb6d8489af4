import Derived.Test.YbulkbpfuFmtSame
namespace Go.Proofs.YbulkbpfuFmt
open Go.ChangeShapes Go.WideShapes Go.ChangeAt Go.RowKit
set_option linter.unusedVariables false

/-- One frame as the law is handed it. -/
structure Fr where
  K : Int
  C : Int
  G : Int
  ao : Option Addr
  db : Nat
  off : Nat
  dl : Nat
  dc : Nat
  D : List Int

/-- What is known of such a frame in a world: its bytes are bytes, its data lie there. -/
structure FrOk (w : World) (f : Fr) : Prop where
  K0 : 0 ≤ f.K
  K1 : f.K ≤ 255
  G0 : 0 ≤ f.G
  G1 : f.G ≤ 255
  dl : f.dl ≤ 9223372036854775807
  at' : 0 < f.dl → f.ao = some ⟨f.db, f.off, none⟩ ∧ f.db < w.heap.size
  cell : ∀ j, j < f.dl → w.cell? ⟨f.db, f.off + j, none⟩ = some (.int .u8 (f.D.getD j 0))
  byte : ∀ j, 0 ≤ f.D.getD j 0 ∧ f.D.getD j 0 ≤ 255

def Fr.t (f : Fr) : Int := if f.K % 3 = 0 then 49 else if f.K % 3 = 1 then 50 else 51
def Fr.n (f : Fr) : Nat := if f.K % 3 = 0 then 2 else if f.K % 3 = 1 then 7 else 14
def Fr.raw (f : Fr) : List Int := rawTo f.C f.G f.D f.dl f.n
def Fr.enc (f : Fr) : List Int := 26 :: f.t :: esc f.raw
def Fr.cells (f : Fr) : Array Value := #[.int .u8 f.K, .int .u64 f.C, .int .u8 f.G, .slice f.ao f.dl f.dc]

theorem Fr.kt (f : Fr) (h : 0 ≤ f.K) : KT f.K f.t f.n := by
  have : f.K % 3 = 0 ∨ f.K % 3 = 1 ∨ f.K % 3 = 2 := by omega
  rcases this with h | h | h
  · exact .inl ⟨h, by simp [Fr.t, h], by simp [Fr.n, h]⟩
  · exact .inr (.inl ⟨h, by simp [Fr.t, h], by simp [Fr.n, h]⟩)
  · exact .inr (.inr ⟨h, by simp [Fr.t, h], by simp [Fr.n, h]⟩)
theorem Fr.n_le (f : Fr) : 2 ≤ f.n ∧ f.n ≤ 14 := by
  unfold Fr.n
  split
  · omega
  · split <;> omega
theorem Fr.raw_len (f : Fr) : f.raw.length = 7 + f.n := rawTo_length _ _ _ _ _
theorem Fr.enc_len (f : Fr) : 3 ≤ f.enc.length ∧ f.enc.length ≤ 44 := by
  have h1 := esc_len f.raw
  have h2 := f.raw_len
  have h3 := f.n_le
  have h4 : 1 ≤ (esc f.raw).length := by
    cases h : f.raw with
    | nil => rw [h] at h2; simp at h2; omega
    | cons x l => simp only [esc]; split <;> simp
  unfold Fr.enc
  simp
  omega
theorem FrOk.mono {w w' : World} {f : Fr} (h : FrOk w f) {B : Nat} (hB : ∀ (b o : Nat) (v : Value), w.cell? ⟨b, o, none⟩ = some v → w'.cell? ⟨b, o, none⟩ = some v) (hs : w.heap.size ≤ w'.heap.size) : FrOk w' f :=
  ⟨h.K0, h.K1, h.G0, h.G1, h.dl, fun x => ⟨(h.at' x).1, Nat.lt_of_lt_of_le (h.at' x).2 hs⟩, fun j hj => hB _ _ _ (h.cell j hj), h.byte⟩
theorem FrOk.below {w w' : World} {f : Fr} (h : FrOk w f) (hb : Below w.heap.size w w') : FrOk w' f :=
  h.mono (B := 0) (fun b o v hv => (hb.cell (by exact World.block_lt_of_cell? w _ hv)).trans hv) hb.size

/-- zzs3296araw at a frame. -/
theorem araw_fr (f : Fr) (w : World) (h : FrOk w f) :
    Calls Ybaf.prog 6 #[.agg #[.int .u8 f.K, .int .u64 f.C, .int .u8 f.G, .slice f.ao f.dl f.dc]] w fun e w' => e = .returned (.tuple #[.int .u8 f.t, .slice (some ⟨w.heap.size + 1, 0, none⟩) (7 + f.n) (7 + f.n)]) ∧ w'.ownsRow w.heap.size 5 1 (.slice (some ⟨w.heap.size + 1, 0, none⟩) (7 + f.n) (7 + f.n)) (7 + f.n) (f.raw.map (Value.int .u8)) ∧ Below w.heap.size w w' :=
  araw_any f.K f.C f.G f.t f.n f.ao f.db f.off f.dl f.dc f.D w h.K0 h.K1 h.G0 h.G1 (f.kt h.K0) h.dl h.at' h.cell h.byte

/-- The frames' bytes, one behind the other. -/
def encs (fr : Nat → Fr) : Nat → List Int
  | 0 => []
  | k + 1 => encs fr k ++ (fr k).enc
theorem encs_len (fr : Nat → Fr) : ∀ k, (encs fr k).length ≤ 44 * k
  | 0 => by simp [encs]
  | k + 1 => by have := encs_len fr k; have := (fr k).enc_len; simp [encs]; omega
/-- The bytes of the frames k, k + 1, .., k + d - 1. -/
def encsFrom (fr : Nat → Fr) : Nat → Nat → List Int
  | _, 0 => []
  | k, d + 1 => (fr k).enc ++ encsFrom fr (k + 1) d
theorem encs_from (fr : Nat → Fr) : ∀ d k, encs fr k ++ encsFrom fr k d = encs fr (k + d)
  | 0, k => by simp [encsFrom]
  | d + 1, k => by
    have := encs_from fr d (k + 1)
    rw [show k + (d + 1) = k + 1 + d from by omega, ← this]
    simp [encsFrom, encs]

/-- The junk's bytes, no escape among them. -/
def jf (b : Int) : Int := if b = 26 then 27 else b
theorem jf_ne (b : Int) : jf b ≠ 26 := by unfold jf; split <;> omega

theorem Below.kp {B : Nat} {w w' : World} (h : Below B w w') (hB : w.heap.size ≤ B) : Kp (fun _ => False) w w' := ⟨h.os, h.tape, h.output, h.size, fun k hk _ => h.block k (by omega)⟩
theorem neq_nil_slice (w : World) : (binOp .neq 22 (.slice none 0 0) (.slice none 0 0)).run Ybaf.prog w = .ok (.bool false) w := by kernel_rfl
end Go.Proofs.YbulkbpfuFmt
