import Derived.Test.YbulkbpfuAdvEnd
namespace Go.Proofs.Ybulkbpfu
open Go.ChangeShapes Go.WideShapes Go.ChangeAt Go.RowKit
set_option linter.unusedVariables false

/-- The clock, in plain numbers. -/
structure St where
  st : Bool
  s : Int
  f : Int
  n : Int
  l : List Int
/-- Four ways of one step. -/
def stFirst (now : Int) : St := ⟨true, now, now, 0, [0]⟩
def stBack (σ : St) (now : Int) : St := ⟨true, σ.s, now, 0, [0]⟩
def stEnd (L : Int) (σ : St) (now : Int) : St := ⟨true, σ.s, σ.f, (now - σ.f) / L, (σ.l ++ [σ.n + 1]).drop (keepK ((now - σ.f) / L) (σ.l ++ [σ.n + 1]))⟩
/-- How a time moves the clock. -/
inductive Step (L : Int) (σ : St) (now : Int) : St → Int → Bool → Prop
  | first (h : σ.st = false) : Step L σ now (stFirst now) 0 false
  | back (h : σ.st = true) (hlt : now < σ.f + σ.n * L - L) : Step L σ now (stBack σ now) 0 false
  | none (h : σ.st = true) (hge : σ.f + σ.n * L - L ≤ now) (hlt : now < σ.f + σ.n * L + L) : Step L σ now σ 0 false
  | ends (h : σ.st = true) (hge : σ.f + σ.n * L + L ≤ now) : Step L σ now (stEnd L σ now) (σ.f + (now - σ.f) / L * L) true

structure Good (L : Int) (σ : St) : Prop where
  num : Num L σ.f σ.n
  off : σ.st = false → σ.f = 0 ∧ σ.n = 0 ∧ σ.s = 0 ∧ σ.l = []
  s0 : -32768 ≤ σ.s
  s1 : σ.s ≤ 32767
  l : ∀ x ∈ σ.l, 0 ≤ x ∧ x ≤ 65536
  ne : σ.st = true → 1 ≤ σ.l.length

theorem step_some (L : Int) (σ : St) (now : Int) (hG : Good L σ) : ∃ σ' e ok, Step L σ now σ' e ok := by
  have h0 := hG.num.L0
  cases h : σ.st with
  | false => exact ⟨_, _, _, .first h⟩
  | true =>
    by_cases h1 : now < σ.f + σ.n * L - L
    · exact ⟨_, _, _, .back h h1⟩
    · by_cases h2 : now < σ.f + σ.n * L + L
      · exact ⟨_, _, _, .none h (by omega) h2⟩
      · exact ⟨_, _, _, .ends h (by omega)⟩

theorem quo_facts {L f n now : Int} (hN : Num L f n) (hnow : -32768 ≤ now ∧ now ≤ 32767) (hge : f + n * L + L ≤ now) : n + 1 ≤ (now - f) / L ∧ (now - f) / L ≤ 65535 ∧ (now - f) / L * L ≤ now - f ∧ 0 ≤ (now - f) / L * L := by
  obtain ⟨L0, L1, f0, f1, n0, n1, p0, p1⟩ := hN
  have h1 : n + 1 ≤ (now - f) / L := (Int.le_ediv_iff_mul_le (by omega)).2 (by rw [Int.add_mul]; omega)
  have h2 : (now - f) / L * L ≤ now - f := Int.ediv_mul_le _ (by omega)
  have h3 : (now - f) / L ≤ now - f := Int.ediv_le_self _ (by omega)
  exact ⟨h1, by omega, h2, Int.mul_nonneg (by omega) (by omega)⟩

theorem keepK_lt (q : Int) : ∀ E : List Int, 1 ≤ E.length → keepK q E < E.length
  | [], h => by simp at h
  | [a], _ => by simp [keepK]
  | a :: b :: r, _ => by
    have := keepK_lt q (b :: r) (by simp)
    rw [keepK]
    split
    · simp at this ⊢; omega
    · simp
theorem Step.good {L : Int} {σ σ' : St} {now e : Int} {ok : Bool} (h : Step L σ now σ' e ok) (hG : Good L σ) (hnow : -32768 ≤ now ∧ now ≤ 32767) : Good L σ' ∧ σ'.l.length ≤ σ.l.length + 1 ∧ σ'.st = true := by
  obtain ⟨hN, hoff, hs0, hs1, hl, hne⟩ := hG
  have hN0 := hN
  obtain ⟨L0, L1, f0, f1, n0, n1, p0, p1⟩ := hN
  cases h with
  | first h => exact ⟨⟨⟨L0, L1, hnow.1, hnow.2, Int.le_refl _, by simp [stFirst], by simp [stFirst], by simp [stFirst]; exact hnow.2⟩, fun h => (by cases h), hnow.1, hnow.2, by simp [stFirst], by simp [stFirst]⟩, by simp [stFirst], rfl⟩
  | back h hlt => exact ⟨⟨⟨L0, L1, hnow.1, hnow.2, Int.le_refl _, by simp [stBack], by simp [stBack], by simp [stBack]; exact hnow.2⟩, fun h => (by cases h), hs0, hs1, by simp [stBack], by simp [stBack]⟩, by simp [stBack], rfl⟩
  | none h _ _ => exact ⟨⟨hN0, hoff, hs0, hs1, hl, hne⟩, by omega, h⟩
  | ends h hge =>
    obtain ⟨q1, q2, q3, q4⟩ := quo_facts hN0 hnow hge
    refine ⟨⟨⟨L0, L1, f0, f1, ?_, q2, q4, ?_⟩, fun h => (by cases h), hs0, hs1, ?_, ?_⟩, ?_, rfl⟩
    · show 0 ≤ (now - σ.f) / L; omega
    · show σ.f + (now - σ.f) / L * L ≤ 32767; omega
    · intro x hx
      have := List.mem_of_mem_drop hx
      rw [List.mem_append, List.mem_singleton] at this
      rcases this with h | rfl
      · exact hl x h
      · omega
    · intro _
      have := keepK_lt ((now - σ.f) / L) (σ.l ++ [σ.n + 1]) (by simp)
      simp only [stEnd, List.length_drop]
      omega
    · simp [stEnd]
theorem Step.end {L : Int} {σ σ' : St} {now e : Int} {ok : Bool} (h : Step L σ now σ' e ok) : (ok = true ∧ e = σ'.f + σ'.n * L) ∨ (ok = false ∧ e = 0) := by
  cases h with
  | ends h hge => exact .inl ⟨rfl, rfl⟩
  | _ => exact .inr ⟨rfl, rfl⟩

/-- What memory holds of the clock. -/
structure Clock (w : World) (B T base : Nat) (L : Int) (mp : Value) (σ : St) (v : Value) : Prop where
  B : Is w B 35 (mcells L σ.st σ.s σ.f σ.n v)
  T : ∃ p, Is w T 43 (tcells mp p)
  V : Rows? w base 39 10 v σ.l.length (rds σ.l)

theorem Clock.kept {w w' : World} {B T base : Nat} {L : Int} {mp : Value} {σ : St} {v : Value} {S : Nat → Prop} (h : Clock w B T base L mp σ v) (k : Kp S w w') (hB : ¬ S B) (hT : ¬ S T) (hV : ∀ g, v.ownBlock = some g → ¬ S g) : Clock w' B T base L mp σ v := by
  obtain ⟨h1, ⟨p, h2⟩, h3⟩ := h
  exact ⟨k.is h1 hB, ⟨p, k.is h2 hT⟩, h3.kept k hV⟩

theorem Rows?.ne {w : World} {base : Nat} {e : TypeId} {size n : Nat} {v : Value} {xs : List Value} (h : Rows? w base e size v n xs) {b : Nat} {t : TypeId} {c : Array Value} (hb : Is w b t c) (he : e ≠ t) : v.ownBlock ≠ some b := by
  rcases h with ⟨rfl, _⟩ | ⟨g, off, cap, rfl, hr⟩
  · simp [Value.ownBlock]
  · simp only [Value.ownBlock]
    intro h
    cases h
    obtain ⟨cur, hc, _⟩ := hr.blk
    unfold Is at hb
    rw [hc] at hb
    cases hb
    exact he rfl
theorem Rows?.apart {w : World} {base : Nat} {e e' : TypeId} {size size' n n' : Nat} {v v' : Value} {xs xs' : List Value} (h : Rows? w base e size v n xs) (h' : Rows? w base e' size' v' n' xs') (he : e ≠ e') : ∀ g, v.ownBlock = some g → v'.ownBlock ≠ some g := by
  intro g hg
  rcases h with ⟨rfl, _⟩ | ⟨g0, off, cap, rfl, hr⟩
  · simp [Value.ownBlock] at hg
  · simp only [Value.ownBlock] at hg
    cases hg
    obtain ⟨cur, hc, _⟩ := hr.blk
    exact h'.ne (show Is w g e cur from hc) (fun h => he h.symm)

theorem advance (B T base : Nat) (L : Int) (mp : Value) (σ : St) (v : Value) (now : Int) (w : World) (σ' : St) (e' : Int) (ok : Bool) (hS : Step L σ now σ' e' ok) (hG : Good L σ) (hnow : -32768 ≤ now ∧ now ≤ 32767) (hC : Clock w B T base L mp σ v) (hBT : B ≠ T) (hl : σ.l.length ≤ 1024) (hbase : base ≤ w.heap.size) :
    Calls Yba.prog 6 #[.pointer (some ⟨B, 0, none⟩), .float .f64 (F now), .pointer (some ⟨T, 0, none⟩)] w fun e w' => e = .returned (.tuple #[.float .f64 (F e'), .bool ok]) ∧ ∃ v', Clock w' B T base L mp σ' v' ∧ Kp (fun k => k = B ∨ k = T ∨ v.ownBlock = some k) w w' := by
  obtain ⟨hB, ⟨p, hT⟩, hV⟩ := hC
  have hvB := hV.ne hB (by decide)
  have hvT := hV.ne hT (by decide)
  obtain ⟨hN, hoff, hs0, hs1, hl2, hne⟩ := hG
  cases hS with
  | first h =>
    obtain ⟨e1, e2, e3, e4⟩ := hoff h
    rw [e1, e2] at hN
    rw [h, e1, e2] at hB
    refine (adv_first B T base L σ.s now v σ.l.length (rds σ.l) mp p w hN hB hT hV hBT hvB hvT hbase).mono ?_
    rintro e w' ⟨rfl, g, off, cap, p', h1, h2, h3, h4, h5⟩
    exact ⟨rfl, _, ⟨h1, ⟨p', h2⟩, .inr ⟨g, off, cap, rfl, h3⟩⟩, h5⟩
  | back h hlt =>
    rw [h] at hB
    refine (adv_back B T base L σ.s σ.f σ.n now v σ.l.length (rds σ.l) mp p w hN hnow hlt hB hT hV hBT hvB hvT hbase).mono ?_
    rintro e w' ⟨rfl, g, off, cap, p', h1, h2, h3, h4, h5⟩
    exact ⟨rfl, _, ⟨h1, ⟨p', h2⟩, .inr ⟨g, off, cap, rfl, h3⟩⟩, h5⟩
  | none h hge hlt =>
    have hB' := hB
    rw [h] at hB'
    refine (adv_none B T L σ.s σ.f σ.n now v w hN hnow hge hlt hB').mono ?_
    rintro e w' ⟨rfl, h5⟩
    exact ⟨rfl, v, ⟨h5.is hB (fun h => h), ⟨p, h5.is hT (fun h => h)⟩, hV.kept h5 (fun _ _ h => h)⟩, h5.mono (fun _ h => h.elim)⟩
  | ends h hge =>
    rw [h] at hB
    refine (adv_end B T base L σ.s σ.f σ.n now v σ.l mp p w hN hnow hge hB hT hV hl hl2 hBT hvB hvT hbase _ rfl _ rfl).mono ?_
    rintro e w' ⟨rfl, g, off, cap, p', h1, h2, h3, h4, h5⟩
    exact ⟨rfl, _, ⟨h1, ⟨p', h2⟩, .inr ⟨g, off, cap, rfl, h3⟩⟩, h5⟩
end Go.Proofs.Ybulkbpfu
