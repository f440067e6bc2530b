import Derived.Test.Qxb6606270aWd
set_option linter.unusedSimpArgs false
set_option linter.unusedVariables false
namespace Go.Proofs.Qxb6606270a
open Go.RowKit

theorem nan_cut (x y t : Nat) : Nan (Question.cut (.nanBits .f64 x y) t) := by
  show Nan ((t % 2) * 2 ^ 63 + 0x7ff0000000000000 + 1 + (t / 2) % (2 ^ 52 - 1))
  have h1 : t % 2 < 2 := Nat.mod_lt _ (by omega)
  have h2 : (t / 2) % (2 ^ 52 - 1) < 2 ^ 52 - 1 := Nat.mod_lt _ (by omega)
  generalize t % 2 = s at *
  generalize (t / 2) % (2 ^ 52 - 1) = f at *
  unfold Nan Ieee.Format.read
  rw [leastD, binadeD, infD, signD]
  simp only
  have e1 : (s * 2 ^ 63 + 0x7ff0000000000000 + 1 + f) % 9223372036854775808 = 0x7ff0000000000000 + 1 + f := by omega
  rw [e1, if_neg (by omega), if_neg (by omega), if_neg (by omega)]
  exact ⟨_, _, rfl⟩

theorem mul_run (x y : Nat) (W : World) : ∃ u : Nat × World, (binOp .mul 32 (.float .f64 x) (.float .f64 y)).run Try.prog W = .ok (.float .f64 u.1) u.2 ∧ MulR x y u.1 ∧ Dr W u.2 := by
  cases h : D.mul x y with
  | some r => exact ⟨(r, W), run_float_arith W .mul 32 .f64 x y r h, .inl h, Dr.refl _⟩
  | none =>
    have h' : FloatKind.f64.format.mul x y = none := h
    exact ⟨(Question.cut (.nanBits .f64 x y) (W.tape W.drawn (.nanBits .f64 x y)), W.drew), by simp [binOp, Op.floatArith, h', Question.forced], .inr ⟨h, nan_cut x y _⟩, ⟨1, rfl⟩⟩

theorem add_run (x y : Nat) (W : World) : ∃ u : Nat × World, (binOp .add 32 (.float .f64 x) (.float .f64 y)).run Try.prog W = .ok (.float .f64 u.1) u.2 ∧ AddR x y u.1 ∧ Dr W u.2 := by
  cases h : D.add x y with
  | some r => exact ⟨(r, W), run_float_arith W .add 32 .f64 x y r h, .inl h, Dr.refl _⟩
  | none =>
    have h' : FloatKind.f64.format.add x y = none := h
    exact ⟨(Question.cut (.nanBits .f64 x y) (W.tape W.drawn (.nanBits .f64 x y)), W.drew), by simp [binOp, Op.floatArith, h', Question.forced], .inr ⟨h, nan_cut x y _⟩, ⟨1, rfl⟩⟩

/-- The product and the sum as functions of the world in which they are asked. -/
theorem mul_fn (x y : Nat) : ∃ (mv : World → Nat) (mw : World → World), ∀ W, (binOp .mul 32 (.float .f64 x) (.float .f64 y)).run Try.prog W = .ok (.float .f64 (mv W)) (mw W) ∧ MulR x y (mv W) ∧ Dr W (mw W) := by
  obtain ⟨f, hf⟩ := Classical.axiomOfChoice (mul_run x y)
  exact ⟨fun W => (f W).1, fun W => (f W).2, hf⟩
theorem add_fn (x : Nat) : ∃ (mv : Nat → World → Nat) (mw : Nat → World → World), ∀ y W, (binOp .add 32 (.float .f64 x) (.float .f64 y)).run Try.prog W = .ok (.float .f64 (mv y W)) (mw y W) ∧ AddR x y (mv y W) ∧ Dr W (mw y W) := by
  obtain ⟨f, hf⟩ := Classical.axiomOfChoice (fun z : Nat × World => add_run x z.1 z.2)
  exact ⟨fun y W => (f (y, W)).1, fun y W => (f (y, W)).2, fun y W => hf (y, W)⟩

/-! ### the state of combine -/
/-- What a cell may hold behind k networks. -/
def Acc (wt X : Nat → Nat) : Nat → Nat → Prop
  | 0, z => z = 0
  | k + 1, z => ∃ y p, Acc wt X k y ∧ MulR (wt k) (X k) p ∧ AddR y p z

/-- How many networks a cell has behind it. -/
def cnt (k p i j q i' j' : Nat) : Nat := if q < p ∨ (q = p ∧ (i' < i ∨ (i' = i ∧ j' < j))) then k + 1 else k

theorem ite_same_of {p q : Prop} [Decidable p] [Decidable q] {a b : Nat} (h : p ↔ q) : (if p then a else b) = if q then a else b := by
  by_cases hp : p
  · rw [if_pos hp, if_pos (h.1 hp)]
  · rw [if_neg hp, if_neg (fun hq => hp (h.2 hq))]

structure Two (w : World) (B b5 : Nat) (ob : Nat → Nat) (rb : Nat → Nat → Nat) (r c : Nat → Nat) (Z : Nat → Nat → Nat → Nat) : Prop where
  om : ∀ q, q < 2 → OutM w B (ob q) (rb q) (r q) (c q) (Z q)
  s5 : ∀ q, q < 2 → w.cell? ⟨b5, q, none⟩ = some (.slice (some ⟨ob q, 0, none⟩) (r q) (r q))
  b5_ge : B ≤ b5
  b5_lt : b5 < w.heap.size
  ne5 : ∀ q i, q < 2 → i < r q → rb q i ≠ b5
  sep : ∀ q q' i i', q < 2 → q' < 2 → q ≠ q' → i < r q → i' < r q' → rb q i ≠ rb q' i'
  sepo : ∀ q q' i, q < 2 → q' < 2 → i < r q → rb q i ≠ ob q'

theorem OutM_below {w w' : World} {B ob : Nat} {rb : Nat → Nat} {r c : Nat} {Z : Nat → Nat → Nat} (h : OutM w B ob rb r c Z) (hb : Below w.heap.size w w') : OutM w' B ob rb r c Z :=
  ⟨h.ob_ge, Nat.lt_of_lt_of_le h.ob_lt hb.size, fun i hi => ⟨(h.rb_ge i hi).1, Nat.lt_of_lt_of_le (h.rb_ge i hi).2 hb.size⟩, h.rb_ne, h.rb_inj,
    fun i hi => (hb.cell (p := ⟨ob, i, none⟩) h.ob_lt).trans (h.top i hi),
    fun i j hi hj => ⟨(hb.cell (p := ⟨rb i, j, none⟩) (h.rb_ge i hi).2).trans (h.cel i j hi hj).1, (hb.frozen (p := ⟨rb i, j, none⟩) (h.rb_ge i hi).2).trans (h.cel i j hi hj).2⟩⟩

theorem Two_below {w w' : World} {B b5 : Nat} {ob : Nat → Nat} {rb : Nat → Nat → Nat} {r c : Nat → Nat} {Z : Nat → Nat → Nat → Nat} (h : Two w B b5 ob rb r c Z) (hb : Below w.heap.size w w') : Two w' B b5 ob rb r c Z :=
  ⟨fun q hq => OutM_below (h.om q hq) hb, fun q hq => (hb.cell (p := ⟨b5, q, none⟩) h.b5_lt).trans (h.s5 q hq), h.b5_ge, Nat.lt_of_lt_of_le h.b5_lt hb.size, h.ne5, h.sep, h.sepo⟩

def put3 (Z : Nat → Nat → Nat → Nat) (q i j z : Nat) : Nat → Nat → Nat → Nat := fun q' i' j' => if q' = q ∧ i' = i ∧ j' = j then z else Z q' i' j'

theorem Two_set {w : World} {B b5 : Nat} {ob : Nat → Nat} {rb : Nat → Nat → Nat} {r c : Nat → Nat} {Z : Nat → Nat → Nat → Nat} (h : Two w B b5 ob rb r c Z) {q i j : Nat} (hq : q < 2) (hi : i < r q) (hj : j < c q) (z : Nat) :
    Two (w.setCell ⟨rb q i, j, none⟩ (.float .f64 z)) B b5 ob rb r c (put3 Z q i j z) := by
  have hoth : ∀ x : Addr, x.block ≠ rb q i → (w.setCell ⟨rb q i, j, none⟩ (.float .f64 z)).cell? x = w.cell? x := fun x hx => World.cell?_setCell_other _ _ _ _ (by intro e; apply hx; rw [← e])
  refine ⟨fun q' hq' => ?_, fun q' hq' => ?_, h.b5_ge, by simpa using h.b5_lt, h.ne5, h.sep, h.sepo⟩
  · have om := h.om q' hq'
    refine ⟨om.ob_ge, by simpa using om.ob_lt, fun i' hi' => ⟨(om.rb_ge i' hi').1, by simpa using (om.rb_ge i' hi').2⟩, om.rb_ne, om.rb_inj, fun i' hi' => ?_, fun i' j' hi' hj' => ?_⟩
    · rw [hoth _ (fun e => h.sepo q q' i hq hq' hi e.symm)]
      exact om.top i' hi'
    · rw [World.frozen?_setCell]
      refine ⟨?_, (om.cel i' j' hi' hj').2⟩
      unfold put3
      by_cases e : q' = q ∧ i' = i ∧ j' = j
      · obtain ⟨rfl, rfl, rfl⟩ := e
        rw [if_pos ⟨rfl, rfl, rfl⟩]
        exact World.cell?_setCell_same _ _ _ (om.cel i' j' hi' hj').1
      · rw [if_neg e]
        have hne : (⟨rb q i, j, none⟩ : Addr) ≠ ⟨rb q' i', j', none⟩ := by
          intro hh
          injection hh with h1 h2
          apply e
          by_cases eq : q' = q
          · subst eq
            refine ⟨rfl, ?_, h2.symm⟩
            by_cases ei : i' = i
            · exact ei
            · exact absurd h1 (om.rb_inj i i' hi hi' (fun e => ei e.symm))
          · exact absurd h1 (h.sep q q' i i' hq hq' (fun e => eq e.symm) hi hi')
        rw [World.cell?_setCell_other _ _ _ _ hne]
        exact (om.cel i' j' hi' hj').1
  · rw [hoth _ (fun e => h.ne5 q i hq hi e.symm)]
    exact h.s5 q' hq'

/-- The whole state: both matrices, and what each cell may hold. -/
def St (B b5 : Nat) (ob : Nat → Nat) (rb : Nat → Nat → Nat) (r c : Nat → Nat) (wt : Nat → Nat) (X : Nat → Nat → Nat → Nat → Nat) (k p i j : Nat) (w : World) : Prop :=
  ∃ Z, Two w B b5 ob rb r c Z ∧ ∀ q i' j', q < 2 → i' < r q → j' < c q → Acc wt (fun n => X n q i' j') (cnt k p i j q i' j') (Z q i' j')

section
variable {B b5 : Nat} {ob : Nat → Nat} {rb : Nat → Nat → Nat} {r c : Nat → Nat} {wt : Nat → Nat} {X : Nat → Nat → Nat → Nat → Nat} {k p i j : Nat} {w w' : World}

theorem St_below (h : St B b5 ob rb r c wt X k p i j w) (hb : Below w.heap.size w w') : St B b5 ob rb r c wt X k p i j w' := by
  obtain ⟨Z, h1, h2⟩ := h
  exact ⟨Z, Two_below h1 hb, h2⟩

theorem St_re {k2 p2 i2 j2 : Nat} (h : St B b5 ob rb r c wt X k p i j w) (e : ∀ q i' j', q < 2 → i' < r q → j' < c q → cnt k p i j q i' j' = cnt k2 p2 i2 j2 q i' j') : St B b5 ob rb r c wt X k2 p2 i2 j2 w := by
  obtain ⟨Z, h1, h2⟩ := h
  exact ⟨Z, h1, fun q i' j' hq hi hj => by rw [← e q i' j' hq hi hj]; exact h2 q i' j' hq hi hj⟩

theorem St_row (h : St B b5 ob rb r c wt X k p i j w) (hj : c p ≤ j) : St B b5 ob rb r c wt X k p (i + 1) 0 w :=
  St_re h fun q i' j' hq hi hj' => by
    unfold cnt
    by_cases e : q = p
    · subst e
      have : (q < q ∨ q = q ∧ (i' < i ∨ i' = i ∧ j' < j)) ↔ (q < q ∨ q = q ∧ (i' < i + 1 ∨ i' = i + 1 ∧ j' < 0)) := by omega
      exact ite_same_of this
    · have : (q < p ∨ q = p ∧ (i' < i ∨ i' = i ∧ j' < j)) ↔ (q < p ∨ q = p ∧ (i' < i + 1 ∨ i' = i + 1 ∧ j' < 0)) := by omega
      exact ite_same_of this

theorem St_mat (h : St B b5 ob rb r c wt X k p i 0 w) (hi : r p ≤ i) : St B b5 ob rb r c wt X k (p + 1) 0 0 w :=
  St_re h fun q i' j' hq hi' hj' => by
    unfold cnt
    by_cases e : q = p
    · subst e
      have : (q < q ∨ q = q ∧ (i' < i ∨ i' = i ∧ j' < 0)) ↔ (q < q + 1 ∨ q = q + 1 ∧ (i' < 0 ∨ i' = 0 ∧ j' < 0)) := by omega
      exact ite_same_of this
    · have : (q < p ∨ q = p ∧ (i' < i ∨ i' = i ∧ j' < 0)) ↔ (q < p + 1 ∨ q = p + 1 ∧ (i' < 0 ∨ i' = 0 ∧ j' < 0)) := by omega
      exact ite_same_of this

theorem St_net (h : St B b5 ob rb r c wt X k p 0 0 w) (hp : 2 ≤ p) : St B b5 ob rb r c wt X (k + 1) 0 0 0 w :=
  St_re h fun q i' j' hq hi' hj' => by
    unfold cnt
    rw [if_pos (by omega), if_neg (by omega)]

/-- The cell that is next. -/
theorem St_cell (h : St B b5 ob rb r c wt X k p i j w) (hp : p < 2) (hi : i < r p) (hj : j < c p) : ∃ y, w.cell? ⟨rb p i, j, none⟩ = some (.float .f64 y) ∧ w.frozen? ⟨rb p i, j, none⟩ = false := by
  obtain ⟨Z, h1, _⟩ := h
  exact ⟨_, (h1.om p hp).cel i j hi hj⟩

theorem St_write (h : St B b5 ob rb r c wt X k p i j w) (hp : p < 2) (hi : i < r p) (hj : j < c p) {y m z : Nat} (hc : w.cell? ⟨rb p i, j, none⟩ = some (.float .f64 y)) (hm : MulR (wt k) (X k p i j) m) (ha : AddR y m z) :
    St B b5 ob rb r c wt X k p i (j + 1) (w.setCell ⟨rb p i, j, none⟩ (.float .f64 z)) := by
  obtain ⟨Z, h1, h2⟩ := h
  have hy : y = Z p i j := by
    have := ((h1.om p hp).cel i j hi hj).1
    rw [hc] at this
    simpa using this
  refine ⟨put3 Z p i j z, Two_set h1 hp hi hj z, fun q i' j' hq hi' hj' => ?_⟩
  unfold put3
  by_cases e : q = p ∧ i' = i ∧ j' = j
  · obtain ⟨rfl, rfl, rfl⟩ := e
    rw [if_pos ⟨rfl, rfl, rfl⟩]
    have e1 : cnt k q i' (j' + 1) q i' j' = k + 1 := by unfold cnt; rw [if_pos (by omega)]
    have e2 : cnt k q i' j' q i' j' = k := by unfold cnt; rw [if_neg (by omega)]
    rw [e1]
    have h3 := h2 q i' j' hq hi' hj'
    rw [e2, ← hy] at h3
    exact ⟨y, m, h3, hm, ha⟩
  · rw [if_neg e]
    have e1 : cnt k p i (j + 1) q i' j' = cnt k p i j q i' j' := by
      unfold cnt
      have : (q < p ∨ q = p ∧ (i' < i ∨ i' = i ∧ j' < j + 1)) ↔ (q < p ∨ q = p ∧ (i' < i ∨ i' = i ∧ j' < j)) := by omega
      exact ite_same_of this
    rw [e1]
    exact h2 q i' j' hq hi' hj'

theorem St_two (h : St B b5 ob rb r c wt X k p i j w) : ∃ Z, Two w B b5 ob rb r c Z := by
  obtain ⟨Z, h1, _⟩ := h
  exact ⟨Z, h1⟩
end
end Go.Proofs.Qxb6606270a
