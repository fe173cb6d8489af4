import Derived.Test.YbulkbpfuSmall
namespace Go.Proofs.Ybulkbpfu
open Go.ChangeShapes Go.WideShapes Go.ChangeAt Go.RowKit
set_option linter.unusedVariables false

/-- The law for storing a float, as the kit has it for other values of one cell. -/
@[go_sem] theorem run_store_float {P : Program} {w : World} {a : Addr} {m : Mode} (k : FloatKind) (b : Nat) : (store a (.float k b) m).run P w = stored P w a (.float k b) m := run_store P w a _ m rfl

/-- nil, or a row. -/
def Rows? (w : World) (base : Nat) (e : TypeId) (size : Nat) (v : Value) (n : Nat) (xs : List Value) : Prop :=
  (v = .slice none 0 0 ∧ n = 0 ∧ xs = []) ∨ ∃ g off cap, v = .slice (some ⟨g, off, none⟩) n cap ∧ Row w base e size g off n cap xs

theorem Rows?.kept {w w' : World} {base : Nat} {e : TypeId} {size n : Nat} {v : Value} {xs : List Value} {S : Nat → Prop} (h : Rows? w base e size v n xs) (k : Kp S w w') (hs : ∀ g, v.ownBlock = some g → ¬ S g) : Rows? w' base e size v n xs := by
  rcases h with h | ⟨g, off, cap, rfl, hr⟩
  · exact .inl h
  · exact .inr ⟨g, off, cap, rfl, hr.kept k (hs g rfl)⟩
theorem Rows?.lt {w : World} {base : Nat} {e : TypeId} {size n : Nat} {v : Value} {xs : List Value} (h : Rows? w base e size v n xs) : ∀ g, v.ownBlock = some g → base ≤ g ∧ g < w.heap.size := by
  rcases h with ⟨rfl, _⟩ | ⟨g, off, cap, rfl, hr⟩
  · intro g hg; simp [Value.ownBlock] at hg
  · intro g' hg; simp [Value.ownBlock] at hg; subst hg; exact ⟨hr.base, hr.lt⟩

theorem run_append_row {P : Program} (w : World) (base : Nat) (t ty e : TypeId) (i : TypeInfo) (z : Value) (size bytes : Nat) (ht : P.underlying t = some (.slice e)) (hi : P.info? e = some i) (hz : i.zero = some z)
    (hsize : i.size = size) (hby : i.bytes = bytes) (hzs : z.cells.size = size) (hsz : 0 < size) (v : Value) (n : Nat) (xs : List Value) (hv : Rows? w base e size v n xs)
    (ad : Addr) (m c : Nat) (news : List Value) (hl : news.length = m * size) (hnews : ∀ j u, news[j]? = some u → w.cell? (ad.add j) = some u) (h1 : ∀ u ∈ news, u.oneCell' = true)
    (h63 : n + m ≤ maxLen) (hbytes : (n + m) * bytes ≤ 140737488355328) (hm : 0 < m) (hbase : base ≤ w.heap.size) :
    ∃ g off cap w', (Builtin.append_ #[t, t] ty #[v, .slice (some ad) m c]).run P w = .ok (.slice (some ⟨g, off, none⟩) (n + m) cap) w' ∧ Row w' base e size g off (n + m) cap (xs ++ news) ∧ Kp (fun k => v.ownBlock = some k) w w' ∧ (v.ownBlock = some g ∨ w.heap.size ≤ g) := by
  rcases hv with ⟨rfl, rfl, rfl⟩ | ⟨g, off, cap, rfl, hr⟩
  · obtain ⟨v', w', hrun, r1, r2, _⟩ := run_append_own (P := P) w w.heap.size t ty e i z size bytes ht hi hz hsize hby hzs hsz (.slice none 0 0) 0 [] (World.ownsRow_nil w _ e size) ad m c news hl hnews h1 h63 hbytes (Nat.le_refl _)
    obtain ⟨g, cap, rfl, hg, hR⟩ := Row.of_own r1 hbase (by omega)
    exact ⟨g, 0, cap, w', hrun, hR, (Kp.refl _ w).grown r2 (fun k hk _ => hk), .inr hg⟩
  · by_cases hfit : n + m ≤ cap
    · subst hsize
      have hrun := run_append_room_cells (P := P) w t ty e i ht hi g off n cap ad m c news hl hnews h1 hfit (fun j hj => (hr.spare m hfit j (by omega)).1) (fun j hj => (hr.spare m hfit j (by omega)).2)
      exact ⟨g, off, cap, _, hrun, hr.put hfit hl, Kp.setCells (S := fun k => (Value.slice (some ⟨g, off, none⟩) n cap).ownBlock = some k) rfl _ _ (Kp.refl _ w), .inl rfl⟩
    · obtain ⟨v', w', hrun, r1, r2⟩ := run_append_arg_grows (P := P) w t ty e i z size bytes ht hi hz hsize hby hzs hsz ⟨g, off, none⟩ n cap xs hr.len (fun j u hj => by rw [Addr.add_lit]; exact hr.cells j u hj) ad m c news hl hnews (by omega) h63 hbytes
      obtain ⟨g', cap', rfl, hg', hR⟩ := Row.of_own r1 hbase (by omega)
      exact ⟨g', 0, cap', w', hrun, hR, (Kp.refl _ w).grown r2 (fun k hk _ => by cases hk), .inr hg'⟩

theorem step_append_row {P : Program} {ops : Array Oper} {o : Oper} {a : Act} {w : World} {K : Act → World → Prop} {Q : Exit → Act → World → Prop} {E : Prop} (hgd : o.guard = none) (s x : Operand) (t : TypeId)
    (ho : o.op = .call { callee := .builtin .append, args := #[s, x], argTypes := #[t, t] }) (base : Nat) (e : TypeId) (i : TypeInfo) (z : Value) (size bytes : Nat) (ht : P.underlying t = some (.slice e)) (hi : P.info? e = some i) (hz : i.zero = some z)
    (hsize : i.size = size) (hby : i.bytes = bytes) (hzs : z.cells.size = size) (hsz : 0 < size) (v : Value) (n : Nat) (xs : List Value) (hs : a.eval s = v) (hv : Rows? w base e size v n xs)
    (ad : Addr) (m c : Nat) (news : List Value) (hx : a.eval x = .slice (some ad) m c) (hl : news.length = m * size) (hnews : ∀ j u, news[j]? = some u → w.cell? (ad.add j) = some u) (h1 : ∀ u ∈ news, u.oneCell' = true)
    (h63 : n + m ≤ maxLen) (hbytes : (n + m) * bytes ≤ 140737488355328) (hm : 0 < m) (hbase : base ≤ w.heap.size)
    (h : ∀ g off cap w', Row w' base e size g off (n + m) cap (xs ++ news) → Kp (fun k => v.ownBlock = some k) w w' → (v.ownBlock = some g ∨ w.heap.size ≤ g) → K (a.put o.dst (.slice (some ⟨g, off, none⟩) (n + m) cap)) w') :
    if Region.wanted o (yielded ops a.tmps) = true then Oper.wp P o a w K Q else E := by
  have hw : Region.wanted o (yielded ops a.tmps) = true := by simp [Region.wanted, hgd]
  rw [if_pos hw]
  obtain ⟨g, off, cap, w', hrun, h2, h3, h4⟩ := run_append_row (P := P) w base t o.type e i z size bytes ht hi hz hsize hby hzs hsz v n xs hv ad m c news hl hnews h1 h63 hbytes hm hbase
  unfold Oper.wp
  simp [execOp, ho, resolve, invoke, builtin, hs, hx, hrun, Result.andThen]
  exact h g off cap w' h2 h3 h4
theorem wpList_append_row {P : Program} {ops : Array Oper} {rest : List Oper} {o : Oper} {a : Act} {w : World} {Q : Exit → Act → World → Prop} (hgd : o.guard = none) (s x : Operand) (t : TypeId)
    (ho : o.op = .call { callee := .builtin .append, args := #[s, x], argTypes := #[t, t] }) (base : Nat) (e : TypeId) (i : TypeInfo) (z : Value) (size bytes : Nat) (ht : P.underlying t = some (.slice e)) (hi : P.info? e = some i) (hz : i.zero = some z)
    (hsize : i.size = size) (hby : i.bytes = bytes) (hzs : z.cells.size = size) (hsz : 0 < size) (v : Value) (n : Nat) (xs : List Value) (hs : a.eval s = v) (hv : Rows? w base e size v n xs)
    (ad : Addr) (m c : Nat) (news : List Value) (hx : a.eval x = .slice (some ad) m c) (hl : news.length = m * size) (hnews : ∀ j u, news[j]? = some u → w.cell? (ad.add j) = some u) (h1 : ∀ u ∈ news, u.oneCell' = true)
    (h63 : n + m ≤ maxLen) (hbytes : (n + m) * bytes ≤ 140737488355328) (hm : 0 < m) (hbase : base ≤ w.heap.size)
    (h : ∀ g off cap w', Row w' base e size g off (n + m) cap (xs ++ news) → Kp (fun k => v.ownBlock = some k) w w' → (v.ownBlock = some g ∨ w.heap.size ≤ g) → wpList P ops Q rest (a.put o.dst (.slice (some ⟨g, off, none⟩) (n + m) cap)) w') :
    wpList P ops Q (o :: rest) a w := by
  refine wpList_plain hgd fun K hK => ?_
  obtain ⟨g, off, cap, w', hrun, h2, h3, h4⟩ := run_append_row (P := P) w base t o.type e i z size bytes ht hi hz hsize hby hzs hsz v n xs hv ad m c news hl hnews h1 h63 hbytes hm hbase
  unfold Oper.wp
  simp [execOp, ho, resolve, invoke, builtin, hs, hx, hrun, Result.andThen]
  exact hK _ _ (h g off cap w' h2 h3 h4)

/-- A reading's ten cells. -/
def rd (n : Int) : List Value := .float .f64 (F n) :: c0s.toList
def rds (l : List Int) : List Value := l.flatMap rd
theorem rds_length (l : List Int) : (rds l).length = l.length * 10 := by
  induction l with
  | nil => rfl
  | cons a l ih => simp only [rds, List.flatMap_cons, List.length_append] at ih ⊢; rw [ih]; simp [rd, c0s]; omega
theorem info39 : (Yba.prog.info? 39).map (fun i => (i.zero, i.size, i.bytes)) = some (some (.agg (#[.float .f64 0] ++ c0s)), 10, 80) := by kernel_rfl
theorem info2 : (Yba.prog.info? 2).map (fun i => (i.zero, i.size, i.bytes)) = some (some (.int .i64 0), 1, 8) := by kernel_rfl
theorem F0 : F 0 = 0 := by decide +kernel
theorem F1 : F 1 = 4607182418800017408 := by decide +kernel
theorem F15 : F 15 = 4624633867356078080 := by decide +kernel
end Go.Proofs.Ybulkbpfu
