import Derived.Test.Qxb6606073aCc
set_option linter.unusedSimpArgs false
set_option linter.unusedVariables false
namespace Go.Proofs.Qxb6606073a
open Go.RowKit

/-- What may be said of a value in a world, and stays said. -/
structure Stays (B : Nat) (p : Value → World → Prop) : Prop where
  below : ∀ v w w', p v w → Below w.heap.size w w' → p v w'
  sl : ∀ v w, p v w → ∃ a n c, v = .slice a n c

def PRp (out : Value) (b sb so i : Nat) (sa : Value) (v1 v2 : Value) (p1 p2 : Value → World → Prop) (k : Nat) (v : Value) (w : World) : Prop :=
  match k with
  | 0 => v = out
  | 1 => v = .int .i64 (i : Int)
  | 2 => v = sa
  | 3 => v = .int .i64 (i : Int)
  | 4 => v = .pointer (some ⟨sb, so + i * 2, none⟩)
  | 5 => v = .pointer (some ⟨sb, so + i * 2, none⟩)
  | 6 => v = v1
  | 7 => p1 v w
  | 8 => v = sa
  | 9 => v = .int .i64 (i : Int)
  | 10 => v = .pointer (some ⟨sb, so + i * 2, none⟩)
  | 11 => v = .pointer (some ⟨sb, so + i * 2 + 1, none⟩)
  | 12 => v = v2
  | 13 => p2 v w
  | 14 => ∃ c1 c2, v = .agg #[c1, c2] ∧ p1 c1 w ∧ p2 c2 w
  | 15 => v = .pointer (some ⟨b, i * 2, none⟩)
  | _ => True

section
variable {out sa v1 v2 : Value} {b sb so i B : Nat} {p1 p2 : Value → World → Prop}

theorem PRp_below (h1 : Stays B p1) (h2 : Stays B p2) {k : Nat} {v : Value} {w w' : World} (h : PRp out b sb so i sa v1 v2 p1 p2 k v w) (hb : Below w.heap.size w w') : PRp out b sb so i sa v1 v2 p1 p2 k v w' := by
  unfold PRp at *
  split <;> simp only at h
  all_goals first
    | exact h
    | exact h1.below _ _ _ h hb
    | exact h2.below _ _ _ h hb
    | (obtain ⟨c1, c2, e, g1, g2⟩ := h
       exact ⟨c1, c2, e, h1.below _ _ _ g1 hb, h2.below _ _ _ g2 hb⟩)

def set2 (w : World) (b o : Nat) (v0 v1 : Value) : World := (w.setCell ⟨b, o, none⟩ v0).setCell ⟨b, o + 1, none⟩ v1

/-- The relation: the frame's slots 0, 3, 4 stay; the operation k writes slot k + 16; at the end the two cells are written. -/
def PRI (out : Value) (b sb so i : Nat) (sa : Value) (v1 v2 : Value) (p1 p2 : Value → World → Prop) (W0 : World) (D : Nat → Bool) (a : Act) (w : World) : Prop :=
  ∃ f : Nat → Value, a = ⟨((List.range 33).map f).toArray, []⟩ ∧ f 0 = sa ∧ f 3 = out ∧ f 4 = .int .i64 (i : Int) ∧
    (D 16 = false → ∀ k, k < 16 → D k = true → PRp out b sb so i sa v1 v2 p1 p2 k (f (k + 16)) w) ∧
    (D 16 = false → Below W0.heap.size W0 w) ∧ (D 16 = true → ∀ k, k < 16 → D k = true) ∧
    (D 16 = true → ∃ wp c1 c2, Below W0.heap.size W0 wp ∧ p1 c1 wp ∧ p2 c2 wp ∧ w = set2 wp b (i * 2) c1 c2)

theorem PRI_val (h1 : Stays B p1) (h2 : Stays B p2) {W0 w w' : World} {D : Nat → Bool} {f : Nat → Value} (q0 : f 0 = sa) (q3 : f 3 = out) (q4 : f 4 = .int .i64 (i : Int))
    (hp : ∀ k, k < 16 → D k = true → PRp out b sb so i sa v1 v2 p1 p2 k (f (k + 16)) w) (hL : D 16 = false) (hW : Below W0.heap.size W0 w) (hb : Below w.heap.size w w')
    (j : Nat) (hj : j < 16) (v : Value) (hv : PRp out b sb so i sa v1 v2 p1 p2 j v w') (t : Array Value) (ht : t = ((List.range 33).map (upd f (j + 16) v)).toArray) :
    PRI out b sb so i sa v1 v2 p1 p2 W0 (fun k => k == j || D k) ⟨t, []⟩ w' := by
  have e16 : (16 == j) = false := by simp; omega
  refine ⟨upd f (j + 16) v, by rw [ht], by rw [upd_ne (by omega)]; exact q0, by rw [upd_ne (by omega)]; exact q3, by rw [upd_ne (by omega)]; exact q4, fun _ k hk hD => ?_, fun _ => hW.trans (hb.mono hW.size), fun h => ?_, fun h => ?_⟩
  · by_cases e : k = j
    · subst e
      rw [upd_eq]
      exact hv
    · rw [upd_ne (by omega)]
      refine PRp_below h1 h2 (hp k hk ?_) hb
      simpa [e] using hD
  · simp [e16, hL] at h
  · simp [e16, hL] at h

theorem PRI_start {W0 w : World} (t : Array Value) (hs : t.size = 33) (g0 : t[0]?.getD undef = sa) (g3 : t[3]?.getD undef = out) (g4 : t[4]?.getD undef = .int .i64 (i : Int)) (hB : Below W0.heap.size W0 w) :
    PRI out b sb so i sa v1 v2 p1 p2 W0 (fun _ => false) ⟨t, []⟩ w := by
  obtain ⟨f, hf, k0, k3, k4⟩ := FrI_intro (N := 33) (rel := fun _ f _ => f 0 = sa ∧ f 3 = out ∧ f 4 = .int .i64 (i : Int)) (k := 0) (w := w) t hs ⟨g0, g3, g4⟩
  exact ⟨f, hf, k0, k3, k4, fun _ _ _ h => by simp at h, fun _ => hB, fun h => by simp at h, fun h => by simp at h⟩
end

theorem cut33 (f : Nat → Value) : ((List.range 33).map f).toArray = #[f 0, f 1, f 2, f 3, f 4, f 5, f 6, f 7, f 8, f 9, f 10, f 11, f 12, f 13, f 14, f 15, f 16, f 17, f 18, f 19, f 20, f 21, f 22, f 23, f 24, f 25, f 26, f 27, f 28, f 29, f 30, f 31, f 32] := by kernel_rfl


/-- A row of pairs of one's own, filled as far as k. -/
structure PF (p1 p2 : Nat → Value → World → Prop) (n : Nat) (w : World) (b k : Nat) : Prop where
  lt : b < w.heap.size
  old : ∀ i, i < n * 2 → (∃ v, w.cell? ⟨b, i, none⟩ = some v) ∧ w.frozen? ⟨b, i, none⟩ = false
  set : ∀ i, i < k → ∃ c1 c2, w.cell? ⟨b, i * 2, none⟩ = some c1 ∧ w.cell? ⟨b, i * 2 + 1, none⟩ = some c2 ∧ p1 i c1 w ∧ p2 i c2 w

/-- .. that stays said while other blocks than old ones turn. -/
structure Keeps (B : Nat) (p : Value → World → Prop) : Prop where
  below : ∀ v w w', p v w → Below w.heap.size w w' → p v w'
  above : ∀ v w w', p v w → Above B w w' → p v w'

theorem PF_below {p1 p2 : Nat → Value → World → Prop} {n : Nat} {w w' : World} {b k : Nat} (h : PF p1 p2 n w b k) (k1 : ∀ i, Keeps (b + 1) (p1 i)) (k2 : ∀ i, Keeps (b + 1) (p2 i)) (hb : Below w.heap.size w w') : PF p1 p2 n w' b k := by
  have hc : ∀ x, w'.cell? ⟨b, x, none⟩ = w.cell? ⟨b, x, none⟩ := fun x => hb.cell (p := ⟨b, x, none⟩) h.lt
  refine ⟨Nat.lt_of_lt_of_le h.lt hb.size, fun i hi => by rw [hc, hb.frozen (p := ⟨b, i, none⟩) h.lt]; exact h.old i hi, fun i hi => ?_⟩
  obtain ⟨c1, c2, e1, e2, g1, g2⟩ := h.set i hi
  exact ⟨c1, c2, (hc _).trans e1, (hc _).trans e2, (k1 i).below _ _ _ g1 hb, (k2 i).below _ _ _ g2 hb⟩

theorem PF_put {p1 p2 : Nat → Value → World → Prop} {n : Nat} {w : World} {b k : Nat} (h : PF p1 p2 n w b k) (k1 : ∀ i, Keeps (b + 1) (p1 i)) (k2 : ∀ i, Keeps (b + 1) (p2 i)) (hk : k < n) {c1 c2 : Value} (g1 : p1 k c1 w) (g2 : p2 k c2 w) :
    PF p1 p2 n (set2 w b (k * 2) c1 c2) b (k + 1) := by
  have ha : Above (b + 1) w (set2 w b (k * 2) c1 c2) := ((Above.refl _ _).setCell (p := ⟨b, k * 2, none⟩) (by show b < b + 1; omega) c1).setCell (p := ⟨b, k * 2 + 1, none⟩) (by show b < b + 1; omega) c2
  obtain ⟨u0, e0⟩ := (h.old (k * 2) (by omega)).1
  obtain ⟨u1, e1⟩ := (h.old (k * 2 + 1) (by omega)).1
  have n1 : (⟨b, k * 2 + 1, none⟩ : Addr) ≠ ⟨b, k * 2, none⟩ := by intro e; injection e with _ e; omega
  refine ⟨by unfold set2; simpa using h.lt, fun i hi => ?_, fun i hi => ?_⟩
  · obtain ⟨⟨u, hu⟩, hf⟩ := h.old i hi
    unfold set2
    rw [World.frozen?_setCell, World.frozen?_setCell]
    obtain ⟨_, a1⟩ := cell?_setCell_some (p := ⟨b, k * 2, none⟩) (x := c1) hu
    exact ⟨cell?_setCell_some a1, hf⟩
  · by_cases e : i = k
    · subst e
      refine ⟨c1, c2, ?_, ?_, (k1 i).above _ _ _ g1 ha, (k2 i).above _ _ _ g2 ha⟩
      · unfold set2
        rw [World.cell?_setCell_other _ _ _ _ n1]
        exact World.cell?_setCell_same _ _ _ e0
      · unfold set2
        exact World.cell?_setCell_same _ _ _ (by rw [World.cell?_setCell_other _ _ _ _ (fun e => n1 e.symm)]; exact e1)
    · obtain ⟨d1, d2, f1, f2, q1, q2⟩ := h.set i (by omega)
      refine ⟨d1, d2, ?_, ?_, (k1 i).above _ _ _ q1 ha, (k2 i).above _ _ _ q2 ha⟩
      · unfold set2
        rw [World.cell?_setCell_other _ _ _ _ (by intro e; injection e with _ e; omega), World.cell?_setCell_other _ _ _ _ (by intro e; injection e with _ e; omega)]
        exact f1
      · unfold set2
        rw [World.cell?_setCell_other _ _ _ _ (by intro e; injection e with _ e; omega), World.cell?_setCell_other _ _ _ _ (by intro e; injection e with _ e; omega)]
        exact f2

end Go.Proofs.Qxb6606073a
