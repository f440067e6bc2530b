import Derived.Test.Qxb6606073aCa
import Derived.Test.Qxb6606073aOr
import Derived.Test.Qxb6606073aFr
set_option linter.unusedSimpArgs false
set_option linter.unusedVariables false
namespace Go.Proofs.Qxb6606073a
open Go.RowKit

theorem mixed : Try.prog.follows .mixedOrders = true := by kernel_rfl

def upd (f : Nat → Value) (i : Nat) (v : Value) : Nat → Value := fun j => if j = i then v else f j
theorem upd_ne {f : Nat → Value} {i j : Nat} {v : Value} (h : j ≠ i) : upd f i v j = f j := by unfold upd; rw [if_neg h]
theorem upd_eq {f : Nat → Value} {i : Nat} {v : Value} : upd f i v i = v := by unfold upd; rw [if_pos rfl]

/-- What each operation's slot holds. -/
def CRp (bx : Nat) (v1 v2 v3 v4 v5 : Value) (q : Bool) (s1 s2 s3 s4 s5 : SD) (B : Nat) (k : Nat) (v : Value) (w : World) : Prop :=
  match k with
  | 0 => v = .pointer (some ⟨bx, 0, none⟩)
  | 1 => v = v1
  | 2 => ClS s1 B v w
  | 3 => v = .pointer (some ⟨bx, 1, none⟩)
  | 4 => v = v2
  | 5 => ClS s2 B v w
  | 6 => v = .pointer (some ⟨bx, 2, none⟩)
  | 7 => v = v3
  | 8 => ClS s3 B v w
  | 9 => v = .pointer (some ⟨bx, 3, none⟩)
  | 10 => v = v4
  | 11 => ClS s4 B v w
  | 12 => v = .pointer (some ⟨bx, 4, none⟩)
  | 13 => v = v5
  | 14 => ClS s5 B v w
  | 15 => v = .pointer (some ⟨bx, 5, none⟩)
  | 16 => v = .bool q
  | 17 => ∃ c1 c2 c3 c4 c5, v = .agg #[c1, c2, c3, c4, c5, .bool q] ∧ ClS s1 B c1 w ∧ ClS s2 B c2 w ∧ ClS s3 B c3 w ∧ ClS s4 B c4 w ∧ ClS s5 B c5 w
  | _ => True

theorem CRp_below {bx : Nat} {v1 v2 v3 v4 v5 : Value} {q : Bool} {s1 s2 s3 s4 s5 : SD} {B k : Nat} {v : Value} {w w' : World} (h : CRp bx v1 v2 v3 v4 v5 q s1 s2 s3 s4 s5 B k v w) (hb : Below w.heap.size w w') : CRp bx v1 v2 v3 v4 v5 q s1 s2 s3 s4 s5 B k v w' := by
  unfold CRp at *
  split <;> simp only at h
  all_goals first
    | exact h
    | exact ClS.below h hb
    | (obtain ⟨c1, c2, c3, c4, c5, e, h1, h2, h3, h4, h5⟩ := h
       exact ⟨c1, c2, c3, c4, c5, e, h1.below hb, h2.below hb, h3.below hb, h4.below hb, h5.below hb⟩)

/-- The relation. -/
def CRI (B : Nat) (W0 : World) (v1 v2 v3 v4 v5 : Value) (q : Bool) (s1 s2 s3 s4 s5 : SD) (D : Nat → Bool) (a : Act) (w : World) : Prop :=
  ∃ f : Nat → Value, a = ⟨((List.range 21).map f).toArray, []⟩ ∧ f 1 = .pointer (some ⟨B, 0, none⟩) ∧ f 2 = .pointer (some ⟨B + 1, 0, none⟩) ∧ Below (B + 1) W0 w ∧ W0.heap.size ≤ w.heap.size ∧
    (∀ k, k < 18 → D k = true → CRp B v1 v2 v3 v4 v5 q s1 s2 s3 s4 s5 (B + 2) k (f (k + 3)) w) ∧
    (D 18 = false → Below (B + 2) W0 w) ∧ (D 18 = true → ∀ k, k < 18 → D k = true) ∧
    (D 18 = true → ∃ c1 c2 c3 c4 c5, w.cell? ⟨B + 1, 0, none⟩ = some c1 ∧ w.cell? ⟨B + 1, 1, none⟩ = some c2 ∧ w.cell? ⟨B + 1, 2, none⟩ = some c3 ∧ w.cell? ⟨B + 1, 3, none⟩ = some c4 ∧ w.cell? ⟨B + 1, 4, none⟩ = some c5 ∧ w.cell? ⟨B + 1, 5, none⟩ = some (.bool q) ∧
      ClS s1 (B + 2) c1 w ∧ ClS s2 (B + 2) c2 w ∧ ClS s3 (B + 2) c3 w ∧ ClS s4 (B + 2) c4 w ∧ ClS s5 (B + 2) c5 w)

/-- One operation that turns no world. -/
theorem CRI_val {B : Nat} {W0 : World} {v1 v2 v3 v4 v5 : Value} {q : Bool} {s1 s2 s3 s4 s5 : SD} {D : Nat → Bool} {f : Nat → Value} {w w' : World} (q1 : f 1 = .pointer (some ⟨B, 0, none⟩)) (q2 : f 2 = .pointer (some ⟨B + 1, 0, none⟩))
    (hB : Below (B + 1) W0 w) (hz : W0.heap.size ≤ w.heap.size) (hp : ∀ k, k < 18 → D k = true → CRp B v1 v2 v3 v4 v5 q s1 s2 s3 s4 s5 (B + 2) k (f (k + 3)) w) (hL : D 18 = false) (h2 : Below (B + 2) W0 w) (hBz : B + 2 ≤ w.heap.size)
    (hb : Below w.heap.size w w') (i : Nat) (hi : i < 18) (v : Value) (hv : CRp B v1 v2 v3 v4 v5 q s1 s2 s3 s4 s5 (B + 2) i v w') (t : Array Value) (ht : t = ((List.range 21).map (upd f (i + 3) v)).toArray) :
    CRI B W0 v1 v2 v3 v4 v5 q s1 s2 s3 s4 s5 (fun j => j == i || D j) ⟨t, []⟩ w' := by
  refine ⟨upd f (i + 3) v, by rw [ht], by rw [upd_ne (by omega)]; exact q1, by rw [upd_ne (by omega)]; exact q2, hB.trans (hb.mono (by omega)), Nat.le_trans hz hb.size, fun k hk hD => ?_, fun _ => h2.trans (hb.mono hBz), fun h => ?_, fun h => ?_⟩
  · by_cases e : k = i
    · subst e
      rw [upd_eq]
      exact hv
    · rw [upd_ne (by omega)]
      refine CRp_below (hp k hk ?_) hb
      simpa [e] using hD
  · have : (18 == i) = false := by simp; omega
    simp [this, hL] at h
  · have : (18 == i) = false := by simp; omega
    simp [this, hL] at h


theorem CRp_above {bx : Nat} {v1 v2 v3 v4 v5 : Value} {q : Bool} {s1 s2 s3 s4 s5 : SD} {B k : Nat} {v : Value} {w w' : World} (h : CRp bx v1 v2 v3 v4 v5 q s1 s2 s3 s4 s5 B k v w) (hb : Above B w w') : CRp bx v1 v2 v3 v4 v5 q s1 s2 s3 s4 s5 B k v w' := by
  unfold CRp at *
  split <;> simp only at h
  all_goals first
    | exact h
    | exact ClS.above h hb
    | (obtain ⟨c1, c2, c3, c4, c5, e, h1, h2, h3, h4, h5⟩ := h
       exact ⟨c1, c2, c3, c4, c5, e, h1.above hb, h2.above hb, h3.above hb, h4.above hb, h5.above hb⟩)

def set6 (w : World) (b o : Nat) (v0 v1 v2 v3 v4 v5 : Value) : World :=
  (((((w.setCell ⟨b, o, none⟩ v0).setCell ⟨b, o + 1, none⟩ v1).setCell ⟨b, o + 2, none⟩ v2).setCell ⟨b, o + 3, none⟩ v3).setCell ⟨b, o + 4, none⟩ v4).setCell ⟨b, o + 5, none⟩ v5
theorem set6_below {B : Nat} {a w : World} (h : Below B a w) {b : Nat} (hb : B ≤ b) (o : Nat) (v0 v1 v2 v3 v4 v5 : Value) : Below B a (set6 w b o v0 v1 v2 v3 v4 v5) :=
  (((((h.setCell (p := ⟨b, o, none⟩) hb v0).setCell (p := ⟨b, o + 1, none⟩) hb v1).setCell (p := ⟨b, o + 2, none⟩) hb v2).setCell (p := ⟨b, o + 3, none⟩) hb v3).setCell (p := ⟨b, o + 4, none⟩) hb v4).setCell (p := ⟨b, o + 5, none⟩) hb v5
theorem set6_above {B : Nat} {a w : World} (h : Above B a w) {b : Nat} (hb : b < B) (o : Nat) (v0 v1 v2 v3 v4 v5 : Value) : Above B a (set6 w b o v0 v1 v2 v3 v4 v5) :=
  (((((h.setCell (p := ⟨b, o, none⟩) hb v0).setCell (p := ⟨b, o + 1, none⟩) hb v1).setCell (p := ⟨b, o + 2, none⟩) hb v2).setCell (p := ⟨b, o + 3, none⟩) hb v3).setCell (p := ⟨b, o + 4, none⟩) hb v4).setCell (p := ⟨b, o + 5, none⟩) hb v5
theorem set6_other {w : World} {b o : Nat} (v0 v1 v2 v3 v4 v5 : Value) {p : Addr} (h : p.block ≠ b ∨ p.off < o ∨ o + 6 ≤ p.off) : (set6 w b o v0 v1 v2 v3 v4 v5).cell? p = w.cell? p := by
  unfold set6
  have hne : ∀ k, k < 6 → (⟨b, o + k, none⟩ : Addr) ≠ p := by
    intro k hk e
    rw [← e] at h
    simp at h
    omega
  rw [World.cell?_setCell_other _ _ _ _ (hne 5 (by omega)), World.cell?_setCell_other _ _ _ _ (hne 4 (by omega)), World.cell?_setCell_other _ _ _ _ (hne 3 (by omega)), World.cell?_setCell_other _ _ _ _ (hne 2 (by omega)), World.cell?_setCell_other _ _ _ _ (hne 1 (by omega)), World.cell?_setCell_other _ _ _ _ (by have := hne 0 (by omega); rw [Nat.add_zero] at this; exact this)]
theorem set6_frozen (w : World) (b o : Nat) (v0 v1 v2 v3 v4 v5 : Value) (p : Addr) : (set6 w b o v0 v1 v2 v3 v4 v5).frozen? p = w.frozen? p := by
  unfold set6; simp
theorem set6_size (w : World) (b o : Nat) (v0 v1 v2 v3 v4 v5 : Value) : (set6 w b o v0 v1 v2 v3 v4 v5).heap.size = w.heap.size := by
  unfold set6; simp
theorem set6_cells {w : World} {b o : Nat} {u0 u1 u2 u3 u4 u5 : Value} (h0 : w.cell? ⟨b, o, none⟩ = some u0) (h1 : w.cell? ⟨b, o + 1, none⟩ = some u1) (h2 : w.cell? ⟨b, o + 2, none⟩ = some u2) (h3 : w.cell? ⟨b, o + 3, none⟩ = some u3) (h4 : w.cell? ⟨b, o + 4, none⟩ = some u4) (h5 : w.cell? ⟨b, o + 5, none⟩ = some u5) (v0 v1 v2 v3 v4 v5 : Value) :
    (set6 w b o v0 v1 v2 v3 v4 v5).cell? ⟨b, o, none⟩ = some v0 ∧ (set6 w b o v0 v1 v2 v3 v4 v5).cell? ⟨b, o + 1, none⟩ = some v1 ∧ (set6 w b o v0 v1 v2 v3 v4 v5).cell? ⟨b, o + 2, none⟩ = some v2 ∧ (set6 w b o v0 v1 v2 v3 v4 v5).cell? ⟨b, o + 3, none⟩ = some v3 ∧ (set6 w b o v0 v1 v2 v3 v4 v5).cell? ⟨b, o + 4, none⟩ = some v4 ∧ (set6 w b o v0 v1 v2 v3 v4 v5).cell? ⟨b, o + 5, none⟩ = some v5 := by
  unfold set6
  have ne : ∀ k j, k ≠ j → (⟨b, o + k, none⟩ : Addr) ≠ ⟨b, o + j, none⟩ := by intro k j h e; injection e with _ e; omega
  have n0 : ∀ k, 0 < k → (⟨b, o + k, none⟩ : Addr) ≠ ⟨b, o, none⟩ := by intro k h e; injection e with _ e; omega
  have m0 : ∀ k, 0 < k → (⟨b, o, none⟩ : Addr) ≠ ⟨b, o + k, none⟩ := by intro k h e; injection e with _ e; omega
  refine ⟨?_, ?_, ?_, ?_, ?_, ?_⟩
  · rw [World.cell?_setCell_other _ _ _ _ (n0 5 (by omega)), World.cell?_setCell_other _ _ _ _ (n0 4 (by omega)), World.cell?_setCell_other _ _ _ _ (n0 3 (by omega)), World.cell?_setCell_other _ _ _ _ (n0 2 (by omega)), World.cell?_setCell_other _ _ _ _ (n0 1 (by omega))]
    exact World.cell?_setCell_same _ _ _ h0
  · rw [World.cell?_setCell_other _ _ _ _ (ne 5 1 (by omega)), World.cell?_setCell_other _ _ _ _ (ne 4 1 (by omega)), World.cell?_setCell_other _ _ _ _ (ne 3 1 (by omega)), World.cell?_setCell_other _ _ _ _ (ne 2 1 (by omega))]
    exact World.cell?_setCell_same _ _ _ (by rw [World.cell?_setCell_other _ _ _ _ (m0 1 (by omega))]; exact h1)
  · rw [World.cell?_setCell_other _ _ _ _ (ne 5 2 (by omega)), World.cell?_setCell_other _ _ _ _ (ne 4 2 (by omega)), World.cell?_setCell_other _ _ _ _ (ne 3 2 (by omega))]
    exact World.cell?_setCell_same _ _ _ (by rw [World.cell?_setCell_other _ _ _ _ (ne 1 2 (by omega)), World.cell?_setCell_other _ _ _ _ (m0 2 (by omega))]; exact h2)
  · rw [World.cell?_setCell_other _ _ _ _ (ne 5 3 (by omega)), World.cell?_setCell_other _ _ _ _ (ne 4 3 (by omega))]
    exact World.cell?_setCell_same _ _ _ (by rw [World.cell?_setCell_other _ _ _ _ (ne 2 3 (by omega)), World.cell?_setCell_other _ _ _ _ (ne 1 3 (by omega)), World.cell?_setCell_other _ _ _ _ (m0 3 (by omega))]; exact h3)
  · rw [World.cell?_setCell_other _ _ _ _ (ne 5 4 (by omega))]
    exact World.cell?_setCell_same _ _ _ (by rw [World.cell?_setCell_other _ _ _ _ (ne 3 4 (by omega)), World.cell?_setCell_other _ _ _ _ (ne 2 4 (by omega)), World.cell?_setCell_other _ _ _ _ (ne 1 4 (by omega)), World.cell?_setCell_other _ _ _ _ (m0 4 (by omega))]; exact h4)
  · exact World.cell?_setCell_same _ _ _ (by rw [World.cell?_setCell_other _ _ _ _ (ne 4 5 (by omega)), World.cell?_setCell_other _ _ _ _ (ne 3 5 (by omega)), World.cell?_setCell_other _ _ _ _ (ne 2 5 (by omega)), World.cell?_setCell_other _ _ _ _ (ne 1 5 (by omega)), World.cell?_setCell_other _ _ _ _ (m0 5 (by omega))]; exact h5)

theorem CRI_start {B : Nat} {W0 w : World} {v1 v2 v3 v4 v5 : Value} {q : Bool} {s1 s2 s3 s4 s5 : SD} (t : Array Value) (hs : t.size = 21) (h1 : t[1]?.getD undef = .pointer (some ⟨B, 0, none⟩)) (h2 : t[2]?.getD undef = .pointer (some ⟨B + 1, 0, none⟩))
    (hB : Below (B + 2) W0 w) : CRI B W0 v1 v2 v3 v4 v5 q s1 s2 s3 s4 s5 (fun _ => false) ⟨t, []⟩ w := by
  obtain ⟨f, hf, g1, g2⟩ := FrI_intro (N := 21) (rel := fun _ f _ => f 1 = .pointer (some ⟨B, 0, none⟩) ∧ f 2 = .pointer (some ⟨B + 1, 0, none⟩)) (k := 0) (w := w) t hs ⟨h1, h2⟩
  exact ⟨f, hf, g1, g2, hB.mono (by omega), hB.size, fun _ _ h => by simp at h, fun _ => hB, fun h => by simp at h, fun h => by simp at h⟩

theorem phases {D : Nat → Bool} {o : Oper} (hdep : ∀ e ∈ o.after, Region.binds .any e = true → D e.on = true) {k : Nat} (h : (⟨k, .phase⟩ : Edge) ∈ o.after) : D k = true := hdep _ h rfl

theorem cut21 (f : Nat → Value) : ((List.range 21).map f).toArray = #[f 0, f 1, f 2, f 3, f 4, f 5, f 6, f 7, f 8, f 9, f 10, f 11, f 12, f 13, f 14, f 15, f 16, f 17, f 18, f 19, f 20] := by kernel_rfl

def ClR (r : RD) (B : Nat) (v : Value) (w : World) : Prop := ∃ c1 c2 c3 c4 c5, v = .agg #[c1, c2, c3, c4, c5, .bool r.q] ∧ ClS r.v B c1 w ∧ ClS r.g B c2 w ∧ ClS r.r B c3 w ∧ ClS r.m B c4 w ∧ ClS r.y B c5 w

set_option maxRecDepth 20000 in
set_option maxHeartbeats 4000000 in
theorem cloneRule12 (r : RD) (w : World) (h : r.ok w) (n1 : r.v.n ≤ 65536) (n2 : r.g.n ≤ 65536) (n3 : r.r.n ≤ 65536) (n4 : r.m.n ≤ 65536) (n5 : r.y.n ≤ 65536) :
    Calls Try.prog 12 #[r.val] w fun e w' => ∃ v, e = .returned v ∧ ClR r w.heap.size v w' ∧ Below w.heap.size w w' := by
  obtain ⟨W0, hW0⟩ : ∃ W0, W0 = (w.alloc (.cells #[r.v.val, r.g.val, r.r.val, r.m.val, r.y.val, .bool r.q] 25)).alloc (.cells #[.slice none 0 0, .slice none 0 0, .slice none 0 0, .slice none 0 0, .slice none 0 0, .bool false] 25) := ⟨_, rfl⟩
  have hBW : Below w.heap.size w W0 := by rw [hW0]; exact ((Below.refl _ _).alloc (Nat.le_refl _) _).alloc (by simp) _
  have hzW : W0.heap.size = w.heap.size + 2 := by rw [hW0]; simp
  have C1 : ∀ W, Below (w.heap.size + 1) W0 W → Calls Try.prog 37 #[r.v.val] W fun e w' => CloneS r.v e W w' := fun W hb => cloneStrs37 _ _ (h.v.below (hBW.trans (hb.mono (by omega)))) n1
  have C2 : ∀ W, Below (w.heap.size + 1) W0 W → Calls Try.prog 37 #[r.g.val] W fun e w' => CloneS r.g e W w' := fun W hb => cloneStrs37 _ _ (h.g.below (hBW.trans (hb.mono (by omega)))) n2
  have C3 : ∀ W, Below (w.heap.size + 1) W0 W → Calls Try.prog 37 #[r.r.val] W fun e w' => CloneS r.r e W w' := fun W hb => cloneStrs37 _ _ (h.r.below (hBW.trans (hb.mono (by omega)))) n3
  have C4 : ∀ W, Below (w.heap.size + 1) W0 W → Calls Try.prog 37 #[r.m.val] W fun e w' => CloneS r.m e W w' := fun W hb => cloneStrs37 _ _ (h.m.below (hBW.trans (hb.mono (by omega)))) n4
  have C5 : ∀ W, Below (w.heap.size + 1) W0 W → Calls Try.prog 37 #[r.y.val] W fun e w' => CloneS r.y e W w' := fun W hb => cloneStrs37 _ _ (h.y.below (hBW.trans (hb.mono (by omega)))) n5
  have x0 : W0.cell? ⟨w.heap.size, 0, none⟩ = some (r.v.val) := by rw [hW0, World.cell?_alloc_past _ _ _ (by simp), box_cell]; rfl
  have x1 : W0.cell? ⟨w.heap.size, 1, none⟩ = some (r.g.val) := by rw [hW0, World.cell?_alloc_past _ _ _ (by simp), box_cell]; rfl
  have x2 : W0.cell? ⟨w.heap.size, 2, none⟩ = some (r.r.val) := by rw [hW0, World.cell?_alloc_past _ _ _ (by simp), box_cell]; rfl
  have x3 : W0.cell? ⟨w.heap.size, 3, none⟩ = some (r.m.val) := by rw [hW0, World.cell?_alloc_past _ _ _ (by simp), box_cell]; rfl
  have x4 : W0.cell? ⟨w.heap.size, 4, none⟩ = some (r.y.val) := by rw [hW0, World.cell?_alloc_past _ _ _ (by simp), box_cell]; rfl
  have x5 : W0.cell? ⟨w.heap.size, 5, none⟩ = some (.bool r.q) := by rw [hW0, World.cell?_alloc_past _ _ _ (by simp), box_cell]; rfl
  have y0 : W0.cell? ⟨w.heap.size + 1, 0, none⟩ = some (.slice none 0 0) ∧ W0.frozen? ⟨w.heap.size + 1, 0, none⟩ = false := by rw [hW0]; constructor <;> simp
  have y1 : W0.cell? ⟨w.heap.size + 1, 1, none⟩ = some (.slice none 0 0) ∧ W0.frozen? ⟨w.heap.size + 1, 1, none⟩ = false := by rw [hW0]; constructor <;> simp
  have y2 : W0.cell? ⟨w.heap.size + 1, 2, none⟩ = some (.slice none 0 0) ∧ W0.frozen? ⟨w.heap.size + 1, 2, none⟩ = false := by rw [hW0]; constructor <;> simp
  have y3 : W0.cell? ⟨w.heap.size + 1, 3, none⟩ = some (.slice none 0 0) ∧ W0.frozen? ⟨w.heap.size + 1, 3, none⟩ = false := by rw [hW0]; constructor <;> simp
  have y4 : W0.cell? ⟨w.heap.size + 1, 4, none⟩ = some (.slice none 0 0) ∧ W0.frozen? ⟨w.heap.size + 1, 4, none⟩ = false := by rw [hW0]; constructor <;> simp
  have y5 : W0.cell? ⟨w.heap.size + 1, 5, none⟩ = some (.bool false) ∧ W0.frozen? ⟨w.heap.size + 1, 5, none⟩ = false := by rw [hW0]; constructor <;> simp
  unfold RD.val at *
  generalize hv1 : r.v.val = v1 at *
  generalize hv2 : r.g.val = v2 at *
  generalize hv3 : r.r.val = v3 at *
  generalize hv4 : r.m.val = v4 at *
  generalize hv5 : r.y.val = v5 at *
  go_enter Try.func12, Try.ntmps12
  go_upto_region 1 with fail
  rw [← hW0]
  clear hW0
  refine wp_region_inv mixed (CRI w.heap.size W0 v1 v2 v3 v4 v5 r.q r.v r.g r.r r.m r.y) ?_ ?_ ?_ ?_
  · intro D a wx i o hI ho hD hdep
    obtain ⟨f, rfl, q1, q2, hB, hz, hp, hN, hA, hY⟩ := hI
    have hlt : i < 19 := (Array.getElem?_eq_some_iff.1 ho).1
    have hL : i ≠ 18 → D 18 = false := by
      intro hne
      cases h18 : D 18 with
      | false => rfl
      | true =>
        have := hA h18 i (by omega)
        rw [hD] at this
        cases this
    rw [cut21]
    rcases (show i = 18 ∨ i < 18 by omega) with e18 | hi
    · subst e18
      have h2 := hN hD
      have hBz : w.heap.size + 2 ≤ wx.heap.size := by have := h2.size; omega
      have hall : ∀ k, k < 18 → D k = true := by
        intro k hk
        have ho' := ho
        simp at ho'
        subst ho'
        refine phases hdep ?_
        simp
        omega
      obtain ⟨c1, c2, c3, c4, c5, d, H1, H2, H3, H4, H5⟩ := hp 17 (by omega) (hall 17 (by omega))
      have d' : f 20 = _ := d
      have K1 := hid H1
      have K2 := hid H2
      have K3 := hid H3
      have K4 := hid H4
      have K5 := hid H5
      obtain ⟨s1, rfl, -⟩ := H1
      obtain ⟨s2, rfl, -⟩ := H2
      obtain ⟨s3, rfl, -⟩ := H3
      obtain ⟨s4, rfl, -⟩ := H4
      obtain ⟨s5, rfl, -⟩ := H5
      unfold SD.val at d'
      have z0 := (h2.cell (p := ⟨w.heap.size + 1, 0, none⟩) (by show w.heap.size + 1 < w.heap.size + 2; omega)).trans y0.1
      have g0 := (h2.frozen (p := ⟨w.heap.size + 1, 0, none⟩) (by show w.heap.size + 1 < w.heap.size + 2; omega)).trans y0.2
      have z1 := (h2.cell (p := ⟨w.heap.size + 1, 1, none⟩) (by show w.heap.size + 1 < w.heap.size + 2; omega)).trans y1.1
      have g1 := (h2.frozen (p := ⟨w.heap.size + 1, 1, none⟩) (by show w.heap.size + 1 < w.heap.size + 2; omega)).trans y1.2
      have z2 := (h2.cell (p := ⟨w.heap.size + 1, 2, none⟩) (by show w.heap.size + 1 < w.heap.size + 2; omega)).trans y2.1
      have g2 := (h2.frozen (p := ⟨w.heap.size + 1, 2, none⟩) (by show w.heap.size + 1 < w.heap.size + 2; omega)).trans y2.2
      have z3 := (h2.cell (p := ⟨w.heap.size + 1, 3, none⟩) (by show w.heap.size + 1 < w.heap.size + 2; omega)).trans y3.1
      have g3 := (h2.frozen (p := ⟨w.heap.size + 1, 3, none⟩) (by show w.heap.size + 1 < w.heap.size + 2; omega)).trans y3.2
      have z4 := (h2.cell (p := ⟨w.heap.size + 1, 4, none⟩) (by show w.heap.size + 1 < w.heap.size + 2; omega)).trans y4.1
      have g4 := (h2.frozen (p := ⟨w.heap.size + 1, 4, none⟩) (by show w.heap.size + 1 < w.heap.size + 2; omega)).trans y4.2
      have z5 := (h2.cell (p := ⟨w.heap.size + 1, 5, none⟩) (by show w.heap.size + 1 < w.heap.size + 2; omega)).trans y5.1
      have g5 := (h2.frozen (p := ⟨w.heap.size + 1, 5, none⟩) (by show w.heap.size + 1 < w.heap.size + 2; omega)).trans y5.2
      refine wpOp_step ho (fun K' hK => ?_)
      simp at ho; subst ho; simp only [Region.wanted, ↓reduceIte]
      rw [q2, d']
      go_wp2
      have hset := set6_cells (b := w.heap.size + 1) (o := 0) z0 z1 z2 z3 z4 z5 s1.val s2.val s3.val s4.val s5.val (.bool r.q)
      have habv : Above (w.heap.size + 2) wx (set6 wx (w.heap.size + 1) 0 s1.val s2.val s3.val s4.val s5.val (.bool r.q)) := set6_above (Above.refl _ _) (by omega) 0 _ _ _ _ _ _
      have hblw : Below (w.heap.size + 1) W0 (set6 wx (w.heap.size + 1) 0 s1.val s2.val s3.val s4.val s5.val (.bool r.q)) := set6_below hB (Nat.le_refl _) 0 _ _ _ _ _ _
      refine ⟨f, by rw [cut21]; simp [q1, q2, d'], q1, q2, hblw, Nat.le_trans hz habv.size, fun k hk _ => CRp_above (hp k hk (hall k hk)) habv, fun h => by simp at h, fun _ k hk => by simp [hall k hk], fun _ => ?_⟩
      exact ⟨_, _, _, _, _, hset.1, hset.2.1, hset.2.2.1, hset.2.2.2.1, hset.2.2.2.2.1, hset.2.2.2.2.2, K1.out.above habv, K2.out.above habv, K3.out.above habv, K4.out.above habv, K5.out.above habv⟩
    have hL' := hL (by omega)
    have h2 := hN hL'
    have hBz : w.heap.size + 2 ≤ wx.heap.size := by have := h2.size; omega
    have hdep' : ∀ e ∈ o.after, Region.binds .any e = true → D e.on = true := hdep
    by_cases e0 : i = 0
    · subst e0
      refine wpOp_step ho (fun K' hK => ?_)
      simp at ho; subst ho; simp only [Region.wanted, ↓reduceIte]
      rw [q1]
      go_wp2
      refine CRI_val q1 q2 hB hz hp hL' h2 hBz (Below.refl _ _) 0 (by omega) _ (by rfl) _ ?_
      rw [cut21]; simp [upd, q1, q2]
    by_cases e1 : i = 1
    · subst e1
      refine wpOp_step ho (fun K' hK => ?_)
      simp at ho; subst ho; simp only [Region.wanted, ↓reduceIte]
      have d0 : f 3 = .pointer (some ⟨w.heap.size, 0, none⟩) := hp 0 (by omega) (hdep ⟨0, .data⟩ (by simp) rfl)
      have cc := (hB.cell (p := ⟨w.heap.size, 0, none⟩) (by show w.heap.size < w.heap.size + 1; omega)).trans x0
      rw [d0]
      go_wp2
      refine CRI_val q1 q2 hB hz hp hL' h2 hBz (Below.refl _ _) 1 (by omega) _ (by rfl) _ ?_
      rw [cut21]; simp [upd, d0, q1, q2]
    by_cases e2 : i = 2
    · subst e2
      refine wpOp_step ho (fun K' hK => ?_)
      simp at ho; subst ho; simp only [Region.wanted, ↓reduceIte]
      have d1 : f 4 = v1 := hp 1 (by omega) (hdep ⟨1, .data⟩ (by simp) rfl)
      rw [d1]
      go_wp2_with fail
      refine (C1 wx hB).mono ?_
      rintro e w' ⟨v, rfl, hcl, hb⟩
      go_wp2
      refine CRI_val q1 q2 hB hz hp hL' h2 hBz hb 2 (by omega) _ (ClS.mono hcl hBz) _ ?_
      rw [cut21]; simp [upd, d1, q1, q2]
    by_cases e3 : i = 3
    · subst e3
      refine wpOp_step ho (fun K' hK => ?_)
      simp at ho; subst ho; simp only [Region.wanted, ↓reduceIte]
      rw [q1]
      go_wp2
      refine CRI_val q1 q2 hB hz hp hL' h2 hBz (Below.refl _ _) 3 (by omega) _ (by rfl) _ ?_
      rw [cut21]; simp [upd, q1, q2]
    by_cases e4 : i = 4
    · subst e4
      refine wpOp_step ho (fun K' hK => ?_)
      simp at ho; subst ho; simp only [Region.wanted, ↓reduceIte]
      have d0 : f 6 = .pointer (some ⟨w.heap.size, 1, none⟩) := hp 3 (by omega) (hdep ⟨3, .data⟩ (by simp) rfl)
      have cc := (hB.cell (p := ⟨w.heap.size, 1, none⟩) (by show w.heap.size < w.heap.size + 1; omega)).trans x1
      rw [d0]
      go_wp2
      refine CRI_val q1 q2 hB hz hp hL' h2 hBz (Below.refl _ _) 4 (by omega) _ (by rfl) _ ?_
      rw [cut21]; simp [upd, d0, q1, q2]
    by_cases e5 : i = 5
    · subst e5
      refine wpOp_step ho (fun K' hK => ?_)
      simp at ho; subst ho; simp only [Region.wanted, ↓reduceIte]
      have d1 : f 7 = v2 := hp 4 (by omega) (hdep ⟨4, .data⟩ (by simp) rfl)
      rw [d1]
      go_wp2_with fail
      refine (C2 wx hB).mono ?_
      rintro e w' ⟨v, rfl, hcl, hb⟩
      go_wp2
      refine CRI_val q1 q2 hB hz hp hL' h2 hBz hb 5 (by omega) _ (ClS.mono hcl hBz) _ ?_
      rw [cut21]; simp [upd, d1, q1, q2]
    by_cases e6 : i = 6
    · subst e6
      refine wpOp_step ho (fun K' hK => ?_)
      simp at ho; subst ho; simp only [Region.wanted, ↓reduceIte]
      rw [q1]
      go_wp2
      refine CRI_val q1 q2 hB hz hp hL' h2 hBz (Below.refl _ _) 6 (by omega) _ (by rfl) _ ?_
      rw [cut21]; simp [upd, q1, q2]
    by_cases e7 : i = 7
    · subst e7
      refine wpOp_step ho (fun K' hK => ?_)
      simp at ho; subst ho; simp only [Region.wanted, ↓reduceIte]
      have d0 : f 9 = .pointer (some ⟨w.heap.size, 2, none⟩) := hp 6 (by omega) (hdep ⟨6, .data⟩ (by simp) rfl)
      have cc := (hB.cell (p := ⟨w.heap.size, 2, none⟩) (by show w.heap.size < w.heap.size + 1; omega)).trans x2
      rw [d0]
      go_wp2
      refine CRI_val q1 q2 hB hz hp hL' h2 hBz (Below.refl _ _) 7 (by omega) _ (by rfl) _ ?_
      rw [cut21]; simp [upd, d0, q1, q2]
    by_cases e8 : i = 8
    · subst e8
      refine wpOp_step ho (fun K' hK => ?_)
      simp at ho; subst ho; simp only [Region.wanted, ↓reduceIte]
      have d1 : f 10 = v3 := hp 7 (by omega) (hdep ⟨7, .data⟩ (by simp) rfl)
      rw [d1]
      go_wp2_with fail
      refine (C3 wx hB).mono ?_
      rintro e w' ⟨v, rfl, hcl, hb⟩
      go_wp2
      refine CRI_val q1 q2 hB hz hp hL' h2 hBz hb 8 (by omega) _ (ClS.mono hcl hBz) _ ?_
      rw [cut21]; simp [upd, d1, q1, q2]
    by_cases e9 : i = 9
    · subst e9
      refine wpOp_step ho (fun K' hK => ?_)
      simp at ho; subst ho; simp only [Region.wanted, ↓reduceIte]
      rw [q1]
      go_wp2
      refine CRI_val q1 q2 hB hz hp hL' h2 hBz (Below.refl _ _) 9 (by omega) _ (by rfl) _ ?_
      rw [cut21]; simp [upd, q1, q2]
    by_cases e10 : i = 10
    · subst e10
      refine wpOp_step ho (fun K' hK => ?_)
      simp at ho; subst ho; simp only [Region.wanted, ↓reduceIte]
      have d0 : f 12 = .pointer (some ⟨w.heap.size, 3, none⟩) := hp 9 (by omega) (hdep ⟨9, .data⟩ (by simp) rfl)
      have cc := (hB.cell (p := ⟨w.heap.size, 3, none⟩) (by show w.heap.size < w.heap.size + 1; omega)).trans x3
      rw [d0]
      go_wp2
      refine CRI_val q1 q2 hB hz hp hL' h2 hBz (Below.refl _ _) 10 (by omega) _ (by rfl) _ ?_
      rw [cut21]; simp [upd, d0, q1, q2]
    by_cases e11 : i = 11
    · subst e11
      refine wpOp_step ho (fun K' hK => ?_)
      simp at ho; subst ho; simp only [Region.wanted, ↓reduceIte]
      have d1 : f 13 = v4 := hp 10 (by omega) (hdep ⟨10, .data⟩ (by simp) rfl)
      rw [d1]
      go_wp2_with fail
      refine (C4 wx hB).mono ?_
      rintro e w' ⟨v, rfl, hcl, hb⟩
      go_wp2
      refine CRI_val q1 q2 hB hz hp hL' h2 hBz hb 11 (by omega) _ (ClS.mono hcl hBz) _ ?_
      rw [cut21]; simp [upd, d1, q1, q2]
    by_cases e12 : i = 12
    · subst e12
      refine wpOp_step ho (fun K' hK => ?_)
      simp at ho; subst ho; simp only [Region.wanted, ↓reduceIte]
      rw [q1]
      go_wp2
      refine CRI_val q1 q2 hB hz hp hL' h2 hBz (Below.refl _ _) 12 (by omega) _ (by rfl) _ ?_
      rw [cut21]; simp [upd, q1, q2]
    by_cases e13 : i = 13
    · subst e13
      refine wpOp_step ho (fun K' hK => ?_)
      simp at ho; subst ho; simp only [Region.wanted, ↓reduceIte]
      have d0 : f 15 = .pointer (some ⟨w.heap.size, 4, none⟩) := hp 12 (by omega) (hdep ⟨12, .data⟩ (by simp) rfl)
      have cc := (hB.cell (p := ⟨w.heap.size, 4, none⟩) (by show w.heap.size < w.heap.size + 1; omega)).trans x4
      rw [d0]
      go_wp2
      refine CRI_val q1 q2 hB hz hp hL' h2 hBz (Below.refl _ _) 13 (by omega) _ (by rfl) _ ?_
      rw [cut21]; simp [upd, d0, q1, q2]
    by_cases e14 : i = 14
    · subst e14
      refine wpOp_step ho (fun K' hK => ?_)
      simp at ho; subst ho; simp only [Region.wanted, ↓reduceIte]
      have d1 : f 16 = v5 := hp 13 (by omega) (hdep ⟨13, .data⟩ (by simp) rfl)
      rw [d1]
      go_wp2_with fail
      refine (C5 wx hB).mono ?_
      rintro e w' ⟨v, rfl, hcl, hb⟩
      go_wp2
      refine CRI_val q1 q2 hB hz hp hL' h2 hBz hb 14 (by omega) _ (ClS.mono hcl hBz) _ ?_
      rw [cut21]; simp [upd, d1, q1, q2]
    by_cases e15 : i = 15
    · subst e15
      refine wpOp_step ho (fun K' hK => ?_)
      simp at ho; subst ho; simp only [Region.wanted, ↓reduceIte]
      rw [q1]
      go_wp2
      refine CRI_val q1 q2 hB hz hp hL' h2 hBz (Below.refl _ _) 15 (by omega) _ (by rfl) _ ?_
      rw [cut21]; simp [upd, q1, q2]
    by_cases e16 : i = 16
    · subst e16
      refine wpOp_step ho (fun K' hK => ?_)
      simp at ho; subst ho; simp only [Region.wanted, ↓reduceIte]
      have d0 : f 18 = .pointer (some ⟨w.heap.size, 5, none⟩) := hp 15 (by omega) (hdep ⟨15, .data⟩ (by simp) rfl)
      have cc := (hB.cell (p := ⟨w.heap.size, 5, none⟩) (by show w.heap.size < w.heap.size + 1; omega)).trans x5
      rw [d0]
      go_wp2
      refine CRI_val q1 q2 hB hz hp hL' h2 hBz (Below.refl _ _) 16 (by omega) _ (by rfl) _ ?_
      rw [cut21]; simp [upd, d0, q1, q2]
    by_cases e17 : i = 17
    · subst e17
      refine wpOp_step ho (fun K' hK => ?_)
      simp at ho; subst ho; simp only [Region.wanted, ↓reduceIte]
      have d1 : ClS r.v (w.heap.size + 2) (f 5) wx := hp 2 (by omega) (hdep ⟨2, .data⟩ (by simp) rfl)
      have d2 : ClS r.g (w.heap.size + 2) (f 8) wx := hp 5 (by omega) (hdep ⟨5, .data⟩ (by simp) rfl)
      have d3 : ClS r.r (w.heap.size + 2) (f 11) wx := hp 8 (by omega) (hdep ⟨8, .data⟩ (by simp) rfl)
      have d4 : ClS r.m (w.heap.size + 2) (f 14) wx := hp 11 (by omega) (hdep ⟨11, .data⟩ (by simp) rfl)
      have d5 : ClS r.y (w.heap.size + 2) (f 17) wx := hp 14 (by omega) (hdep ⟨14, .data⟩ (by simp) rfl)
      have d6 : f 19 = .bool r.q := hp 16 (by omega) (hdep ⟨16, .data⟩ (by simp) rfl)
      have H1 := hid d1
      have H2 := hid d2
      have H3 := hid d3
      have H4 := hid d4
      have H5 := hid d5
      obtain ⟨s1, k1, -⟩ := d1
      obtain ⟨s2, k2, -⟩ := d2
      obtain ⟨s3, k3, -⟩ := d3
      obtain ⟨s4, k4, -⟩ := d4
      obtain ⟨s5, k5, -⟩ := d5
      unfold SD.val at k1 k2 k3 k4 k5
      rw [k1, k2, k3, k4, k5, d6]
      go_wp2
      refine CRI_val q1 q2 hB hz hp hL' h2 hBz (Below.refl _ _) 17 (by omega) _ ⟨_, _, _, _, _, rfl, k1 ▸ H1.out, k2 ▸ H2.out, k3 ▸ H3.out, k4 ▸ H4.out, k5 ▸ H5.out⟩ _ ?_
      rw [cut21]; simp [upd, d6, q1, q2, k1, k2, k3, k4, k5]
    omega
  · intro D a wx hI hall
    obtain ⟨f, rfl, q1, q2, hB, hz, hp, hN, hA, hY⟩ := hI
    obtain ⟨c1, c2, c3, c4, c5, z0, z1, z2, z3, z4, z5, H1, H2, H3, H4, H5⟩ := hY (hall 18 (by simp))
    have K1 := hid H1
    have K2 := hid H2
    have K3 := hid H3
    have K4 := hid H4
    have K5 := hid H5
    have hBw : Below w.heap.size w wx := hBW.trans (hB.mono (by omega))
    obtain ⟨s1, rfl, -⟩ := H1
    obtain ⟨s2, rfl, -⟩ := H2
    obtain ⟨s3, rfl, -⟩ := H3
    obtain ⟨s4, rfl, -⟩ := H4
    obtain ⟨s5, rfl, -⟩ := H5
    rw [cut21, q1, q2]
    clear hp hN hA hY
    unfold SD.val at z0 z1 z2 z3 z4
    go_wp2
    refine bodyPost_ret (v := .agg #[.slice s1.a s1.n s1.c, .slice s2.a s2.n s2.c, .slice s3.a s3.n s3.c, .slice s4.a s4.n s4.c, .slice s5.a s5.n s5.c, .bool r.q]) (by simp [results, Try.results12, go_sem, z0, z1, z2, z3, z4, z5]) rfl ⟨_, rfl, ?_, hBw⟩
    exact ⟨_, _, _, _, _, rfl, K1.out.mono (by omega), K2.out.mono (by omega), K3.out.mono (by omega), K4.out.mono (by omega), K5.out.mono (by omega)⟩
  · intro i o ho e he _
    have hlt : i < 19 := (Array.getElem?_eq_some_iff.1 ho).1
    by_cases e0 : i = 0
    · subst e0
      simp at ho; subst ho
      simp at he <;> first | (rcases he with rfl | rfl | rfl | rfl | rfl | rfl <;> simp) | (rcases he with rfl | rfl <;> simp) | (subst he; simp) | (rcases he with rfl | rfl | rfl | rfl | rfl | rfl | rfl | rfl | rfl | rfl | rfl | rfl | rfl | rfl | rfl | rfl | rfl | rfl | rfl | rfl <;> simp)
    by_cases e1 : i = 1
    · subst e1
      simp at ho; subst ho
      simp at he <;> first | (rcases he with rfl | rfl | rfl | rfl | rfl | rfl <;> simp) | (rcases he with rfl | rfl <;> simp) | (subst he; simp) | (rcases he with rfl | rfl | rfl | rfl | rfl | rfl | rfl | rfl | rfl | rfl | rfl | rfl | rfl | rfl | rfl | rfl | rfl | rfl | rfl | rfl <;> simp)
    by_cases e2 : i = 2
    · subst e2
      simp at ho; subst ho
      simp at he <;> first | (rcases he with rfl | rfl | rfl | rfl | rfl | rfl <;> simp) | (rcases he with rfl | rfl <;> simp) | (subst he; simp) | (rcases he with rfl | rfl | rfl | rfl | rfl | rfl | rfl | rfl | rfl | rfl | rfl | rfl | rfl | rfl | rfl | rfl | rfl | rfl | rfl | rfl <;> simp)
    by_cases e3 : i = 3
    · subst e3
      simp at ho; subst ho
      simp at he <;> first | (rcases he with rfl | rfl | rfl | rfl | rfl | rfl <;> simp) | (rcases he with rfl | rfl <;> simp) | (subst he; simp) | (rcases he with rfl | rfl | rfl | rfl | rfl | rfl | rfl | rfl | rfl | rfl | rfl | rfl | rfl | rfl | rfl | rfl | rfl | rfl | rfl | rfl <;> simp)
    by_cases e4 : i = 4
    · subst e4
      simp at ho; subst ho
      simp at he <;> first | (rcases he with rfl | rfl | rfl | rfl | rfl | rfl <;> simp) | (rcases he with rfl | rfl <;> simp) | (subst he; simp) | (rcases he with rfl | rfl | rfl | rfl | rfl | rfl | rfl | rfl | rfl | rfl | rfl | rfl | rfl | rfl | rfl | rfl | rfl | rfl | rfl | rfl <;> simp)
    by_cases e5 : i = 5
    · subst e5
      simp at ho; subst ho
      simp at he <;> first | (rcases he with rfl | rfl | rfl | rfl | rfl | rfl <;> simp) | (rcases he with rfl | rfl <;> simp) | (subst he; simp) | (rcases he with rfl | rfl | rfl | rfl | rfl | rfl | rfl | rfl | rfl | rfl | rfl | rfl | rfl | rfl | rfl | rfl | rfl | rfl | rfl | rfl <;> simp)
    by_cases e6 : i = 6
    · subst e6
      simp at ho; subst ho
      simp at he <;> first | (rcases he with rfl | rfl | rfl | rfl | rfl | rfl <;> simp) | (rcases he with rfl | rfl <;> simp) | (subst he; simp) | (rcases he with rfl | rfl | rfl | rfl | rfl | rfl | rfl | rfl | rfl | rfl | rfl | rfl | rfl | rfl | rfl | rfl | rfl | rfl | rfl | rfl <;> simp)
    by_cases e7 : i = 7
    · subst e7
      simp at ho; subst ho
      simp at he <;> first | (rcases he with rfl | rfl | rfl | rfl | rfl | rfl <;> simp) | (rcases he with rfl | rfl <;> simp) | (subst he; simp) | (rcases he with rfl | rfl | rfl | rfl | rfl | rfl | rfl | rfl | rfl | rfl | rfl | rfl | rfl | rfl | rfl | rfl | rfl | rfl | rfl | rfl <;> simp)
    by_cases e8 : i = 8
    · subst e8
      simp at ho; subst ho
      simp at he <;> first | (rcases he with rfl | rfl | rfl | rfl | rfl | rfl <;> simp) | (rcases he with rfl | rfl <;> simp) | (subst he; simp) | (rcases he with rfl | rfl | rfl | rfl | rfl | rfl | rfl | rfl | rfl | rfl | rfl | rfl | rfl | rfl | rfl | rfl | rfl | rfl | rfl | rfl <;> simp)
    by_cases e9 : i = 9
    · subst e9
      simp at ho; subst ho
      simp at he <;> first | (rcases he with rfl | rfl | rfl | rfl | rfl | rfl <;> simp) | (rcases he with rfl | rfl <;> simp) | (subst he; simp) | (rcases he with rfl | rfl | rfl | rfl | rfl | rfl | rfl | rfl | rfl | rfl | rfl | rfl | rfl | rfl | rfl | rfl | rfl | rfl | rfl | rfl <;> simp)
    by_cases e10 : i = 10
    · subst e10
      simp at ho; subst ho
      simp at he <;> first | (rcases he with rfl | rfl | rfl | rfl | rfl | rfl <;> simp) | (rcases he with rfl | rfl <;> simp) | (subst he; simp) | (rcases he with rfl | rfl | rfl | rfl | rfl | rfl | rfl | rfl | rfl | rfl | rfl | rfl | rfl | rfl | rfl | rfl | rfl | rfl | rfl | rfl <;> simp)
    by_cases e11 : i = 11
    · subst e11
      simp at ho; subst ho
      simp at he <;> first | (rcases he with rfl | rfl | rfl | rfl | rfl | rfl <;> simp) | (rcases he with rfl | rfl <;> simp) | (subst he; simp) | (rcases he with rfl | rfl | rfl | rfl | rfl | rfl | rfl | rfl | rfl | rfl | rfl | rfl | rfl | rfl | rfl | rfl | rfl | rfl | rfl | rfl <;> simp)
    by_cases e12 : i = 12
    · subst e12
      simp at ho; subst ho
      simp at he <;> first | (rcases he with rfl | rfl | rfl | rfl | rfl | rfl <;> simp) | (rcases he with rfl | rfl <;> simp) | (subst he; simp) | (rcases he with rfl | rfl | rfl | rfl | rfl | rfl | rfl | rfl | rfl | rfl | rfl | rfl | rfl | rfl | rfl | rfl | rfl | rfl | rfl | rfl <;> simp)
    by_cases e13 : i = 13
    · subst e13
      simp at ho; subst ho
      simp at he <;> first | (rcases he with rfl | rfl | rfl | rfl | rfl | rfl <;> simp) | (rcases he with rfl | rfl <;> simp) | (subst he; simp) | (rcases he with rfl | rfl | rfl | rfl | rfl | rfl | rfl | rfl | rfl | rfl | rfl | rfl | rfl | rfl | rfl | rfl | rfl | rfl | rfl | rfl <;> simp)
    by_cases e14 : i = 14
    · subst e14
      simp at ho; subst ho
      simp at he <;> first | (rcases he with rfl | rfl | rfl | rfl | rfl | rfl <;> simp) | (rcases he with rfl | rfl <;> simp) | (subst he; simp) | (rcases he with rfl | rfl | rfl | rfl | rfl | rfl | rfl | rfl | rfl | rfl | rfl | rfl | rfl | rfl | rfl | rfl | rfl | rfl | rfl | rfl <;> simp)
    by_cases e15 : i = 15
    · subst e15
      simp at ho; subst ho
      simp at he <;> first | (rcases he with rfl | rfl | rfl | rfl | rfl | rfl <;> simp) | (rcases he with rfl | rfl <;> simp) | (subst he; simp) | (rcases he with rfl | rfl | rfl | rfl | rfl | rfl | rfl | rfl | rfl | rfl | rfl | rfl | rfl | rfl | rfl | rfl | rfl | rfl | rfl | rfl <;> simp)
    by_cases e16 : i = 16
    · subst e16
      simp at ho; subst ho
      simp at he <;> first | (rcases he with rfl | rfl | rfl | rfl | rfl | rfl <;> simp) | (rcases he with rfl | rfl <;> simp) | (subst he; simp) | (rcases he with rfl | rfl | rfl | rfl | rfl | rfl | rfl | rfl | rfl | rfl | rfl | rfl | rfl | rfl | rfl | rfl | rfl | rfl | rfl | rfl <;> simp)
    by_cases e17 : i = 17
    · subst e17
      simp at ho; subst ho
      simp at he <;> first | (rcases he with rfl | rfl | rfl | rfl | rfl | rfl <;> simp) | (rcases he with rfl | rfl <;> simp) | (subst he; simp) | (rcases he with rfl | rfl | rfl | rfl | rfl | rfl | rfl | rfl | rfl | rfl | rfl | rfl | rfl | rfl | rfl | rfl | rfl | rfl | rfl | rfl <;> simp)
    by_cases e18 : i = 18
    · subst e18
      simp at ho; subst ho
      simp at he <;> first | (rcases he with rfl | rfl | rfl | rfl | rfl | rfl <;> simp) | (rcases he with rfl | rfl <;> simp) | (subst he; simp) | (rcases he with rfl | rfl | rfl | rfl | rfl | rfl | rfl | rfl | rfl | rfl | rfl | rfl | rfl | rfl | rfl | rfl | rfl | rfl | rfl | rfl <;> simp)
    omega
  · exact CRI_start _ rfl rfl rfl (by have := (Below.refl (w.heap.size + 2) W0).drew; exact this)
end Go.Proofs.Qxb6606073a

