import Derived.Test.Qxb6606270aWe
import Derived.BigRegion
set_option linter.unusedSimpArgs false
set_option linter.unusedVariables false
namespace Go.Proofs.Qxb6606270a
open Go.RowKit

theorem bcell {W w1 : World} (hb : Below W.heap.size W w1) : (∀ b o, b < W.heap.size → w1.cell? ⟨b, o, none⟩ = W.cell? ⟨b, o, none⟩) ∧ (∀ b o, b < W.heap.size → w1.frozen? ⟨b, o, none⟩ = W.frozen? ⟨b, o, none⟩) :=
  ⟨fun b o h => hb.cell (p := ⟨b, o, none⟩) h, fun b o h => hb.frozen (p := ⟨b, o, none⟩) h⟩
theorem lt_chain {a b c d : Nat} (h1 : a ≤ b) (h2 : b ≤ c) (h3 : c < d) : a < d := by omega

def two (a b : Nat) : Nat → Nat := fun q => if q = 0 then a else b
def twoF (a b : Nat → Nat) : Nat → Nat → Nat := fun q => if q = 0 then a else b

theorem Two_make {w1 w2 wf : World} {B B0 B1 b5 ob0 ob1 : Nat} {rb0 rb1 : Nat → Nat} {r c : Nat → Nat} (O0 : OutM w1 B0 ob0 rb0 (r 0) (c 0) (fun _ _ => 0)) (O1 : OutM w2 B1 ob1 rb1 (r 1) (c 1) (fun _ _ => 0))
    (hB0 : B ≤ B0) (h1 : w1.heap.size ≤ B1) (hb : Below w1.heap.size w1 w2) (hoth : ∀ x : Addr, x.block < w2.heap.size → x.block ≠ b5 → wf.cell? x = w2.cell? x ∧ wf.frozen? x = w2.frozen? x) (hsz : w2.heap.size ≤ wf.heap.size)
    (hB5 : B ≤ b5) (h5lt : b5 < wf.heap.size) (h50 : wf.cell? ⟨b5, 0, none⟩ = some (.slice (some ⟨ob0, 0, none⟩) (r 0) (r 0))) (h51 : wf.cell? ⟨b5, 1, none⟩ = some (.slice (some ⟨ob1, 0, none⟩) (r 1) (r 1)))
    (h5 : ∀ x, (B0 ≤ x ∧ x < w1.heap.size) ∨ (B1 ≤ x ∧ x < w2.heap.size) → x ≠ b5) : Two wf B b5 (two ob0 ob1) (twoF rb0 rb1) r c (fun _ _ _ => 0) := by
  have s0 := O0.ob_lt
  have s1 := O1.ob_lt
  have hs12 := hb.size
  have g0 := O0.ob_ge
  have g1 := O1.ob_ge
  have q0 : ∀ q, q < 2 → q = 0 ∨ q = 1 := fun q h => by omega
  have P0 : OutM wf B ob0 rb0 (r 0) (c 0) (fun _ _ => 0) := by
    refine ⟨by omega, by omega, fun i hi => ?_, O0.rb_ne, O0.rb_inj, fun i hi => ?_, fun i j hi hj => ?_⟩
    · have := O0.rb_ge i hi; omega
    · rw [(hoth ⟨ob0, i, none⟩ (by show ob0 < _; omega) (h5 ob0 (by omega))).1, hb.cell (p := ⟨ob0, i, none⟩) s0]
      exact O0.top i hi
    · have hr := O0.rb_ge i hi
      obtain ⟨e1, e2⟩ := hoth ⟨rb0 i, j, none⟩ (by show rb0 i < _; omega) (h5 (rb0 i) (by omega))
      rw [e1, e2, hb.cell (p := ⟨rb0 i, j, none⟩) hr.2, hb.frozen (p := ⟨rb0 i, j, none⟩) hr.2]
      exact O0.cel i j hi hj
  have P1 : OutM wf B ob1 rb1 (r 1) (c 1) (fun _ _ => 0) := by
    refine ⟨by omega, by omega, fun i hi => ?_, O1.rb_ne, O1.rb_inj, fun i hi => ?_, fun i j hi hj => ?_⟩
    · have := O1.rb_ge i hi; omega
    · rw [(hoth ⟨ob1, i, none⟩ (by show ob1 < _; omega) (h5 ob1 (by omega))).1]
      exact O1.top i hi
    · have hr := O1.rb_ge i hi
      obtain ⟨e1, e2⟩ := hoth ⟨rb1 i, j, none⟩ (by show rb1 i < _; omega) (h5 (rb1 i) (by omega))
      rw [e1, e2]
      exact O1.cel i j hi hj
  refine ⟨fun q hq => ?_, fun q hq => ?_, hB5, h5lt, fun q i hq hi => ?_, fun q q' i i' hq hq' hne hi hi' => ?_, fun q q' i hq hq' hi => ?_⟩
  · rcases q0 q hq with rfl | rfl
    · exact P0
    · exact P1
  · rcases q0 q hq with rfl | rfl
    · exact h50
    · exact h51
  · rcases q0 q hq with rfl | rfl
    · have := O0.rb_ge i hi; exact h5 _ (.inl this)
    · have := O1.rb_ge i hi; exact h5 _ (.inr this)
  · rcases q0 q hq with rfl | rfl
    · rcases q0 q' hq' with rfl | rfl
      · omega
      · have a := O0.rb_ge i hi
        have b := O1.rb_ge i' hi'
        show rb0 i ≠ rb1 i'
        omega
    · rcases q0 q' hq' with rfl | rfl
      · have a := O1.rb_ge i hi
        have b := O0.rb_ge i' hi'
        show rb1 i ≠ rb0 i'
        omega
      · omega
  · rcases q0 q hq with rfl | rfl
    · rcases q0 q' hq' with rfl | rfl
      · exact O0.rb_ne i hi
      · have a := O0.rb_ge i hi
        show rb0 i ≠ ob1
        omega
    · rcases q0 q' hq' with rfl | rfl
      · have a := O1.rb_ge i hi
        show rb1 i ≠ ob0
        omega
      · exact O1.rb_ne i hi

/-- Two cells of one block stored. -/
theorem set2_oth (w2 : World) (b5 : Nat) (v0 v1 : Value) : ∀ x : Addr, x.block < w2.heap.size → x.block ≠ b5 → ((w2.setCell ⟨b5, 0, none⟩ v0).setCell ⟨b5, 1, none⟩ v1).cell? x = w2.cell? x ∧ ((w2.setCell ⟨b5, 0, none⟩ v0).setCell ⟨b5, 1, none⟩ v1).frozen? x = w2.frozen? x := by
  intro x _ hx
  rw [World.cell?_setCell_other _ _ _ _ (by intro e; apply hx; rw [← e]), World.cell?_setCell_other _ _ _ _ (by intro e; apply hx; rw [← e]), World.frozen?_setCell, World.frozen?_setCell]
  exact ⟨rfl, rfl⟩

theorem set2_cells {w2 : World} {b5 : Nat} {u0 u1 : Value} (v0 v1 : Value) (h0 : w2.cell? ⟨b5, 0, none⟩ = some u0) (h1 : w2.cell? ⟨b5, 1, none⟩ = some u1) : ((w2.setCell ⟨b5, 0, none⟩ v0).setCell ⟨b5, 1, none⟩ v1).cell? ⟨b5, 0, none⟩ = some v0 ∧ ((w2.setCell ⟨b5, 0, none⟩ v0).setCell ⟨b5, 1, none⟩ v1).cell? ⟨b5, 1, none⟩ = some v1 := by
  constructor
  · rw [World.cell?_setCell_other _ _ _ _ (by simp)]
    exact World.cell?_setCell_same _ _ _ h0
  · exact World.cell?_setCell_same _ _ _ (by rw [World.cell?_setCell_other _ _ _ _ (by simp)]; exact h1)

theorem alloc_oth (w2 : World) (o : Obj) (b5 : Nat) : ∀ x : Addr, x.block < w2.heap.size → x.block ≠ b5 → (w2.alloc o).cell? x = w2.cell? x ∧ (w2.alloc o).frozen? x = w2.frozen? x := by
  intro x h _
  have hb := Below.heap_alloc w2 o x.block h
  exact ⟨World.cell?_of_block (w := w2) hb, World.frozen?_of_block (w := w2) hb⟩

theorem new_cell (w : World) (x y : Value) (t : TypeId) : (w.alloc (.cells #[x, y] t)).cell? ⟨w.heap.size, 0, none⟩ = some x ∧ (w.alloc (.cells #[x, y] t)).cell? ⟨w.heap.size, 1, none⟩ = some y := by
  rw [World.cell?_alloc_new, World.cell?_alloc_new]; exact ⟨rfl, rfl⟩

theorem way_B {W0 w w1 w2 : World} {Bq ob0 ob1 : Nat} {rb0 rb1 : Nat → Nat} {r c : Nat → Nat} {x y : Value} {t : TypeId} (O0 : OutM w1 Bq ob0 rb0 (r 0) (c 0) (fun _ _ => 0)) (O1 : OutM w2 (w1.alloc (.cells #[x, y] t)).heap.size ob1 rb1 (r 1) (c 1) (fun _ _ => 0))
    (hbz1 : Below (w1.alloc (.cells #[x, y] t)).heap.size (w1.alloc (.cells #[x, y] t)) w2) (hbW : Below W0.heap.size W0 w2) (hB1 : Below W0.heap.size W0 w1) (hz : w.heap.size + 1 ≤ W0.heap.size) (hq : W0.heap.size ≤ Bq) :
    ∃ (b5 : Nat) (ob : Nat → Nat) (rb : Nat → Nat → Nat), Value.pointer (some ⟨w1.heap.size, 0, none⟩) = .pointer (some ⟨b5, 0, none⟩) ∧
      Two ((w2.setCell ⟨w1.heap.size, 0, none⟩ (.slice (some ⟨ob0, 0, none⟩) (r 0) (r 0))).setCell ⟨w1.heap.size, 1, none⟩ (.slice (some ⟨ob1, 0, none⟩) (r 1) (r 1))) (w.heap.size + 1) b5 ob rb r c (fun _ _ _ => 0) ∧
      Below (w.heap.size + 1) W0 ((w2.setCell ⟨w1.heap.size, 0, none⟩ (.slice (some ⟨ob0, 0, none⟩) (r 0) (r 0))).setCell ⟨w1.heap.size, 1, none⟩ (.slice (some ⟨ob1, 0, none⟩) (r 1) (r 1))) := by
  have hs1 := hbz1.size
  have e := World.size_alloc w1 (.cells #[x, y] t)
  rw [e] at hs1
  have hs0 := hB1.size
  obtain ⟨n0, n1⟩ := new_cell w1 x y t
  have lt : w1.heap.size < (w1.alloc (.cells #[x, y] t)).heap.size := by rw [e]; omega
  obtain ⟨s0, s1⟩ := set2_cells (.slice (some ⟨ob0, 0, none⟩) (r 0) (r 0)) (.slice (some ⟨ob1, 0, none⟩) (r 1) (r 1)) ((hbz1.cell (p := ⟨w1.heap.size, 0, none⟩) lt).trans n0) ((hbz1.cell (p := ⟨w1.heap.size, 1, none⟩) lt).trans n1)
  refine ⟨_, two ob0 ob1, twoF rb0 rb1, rfl, Two_make (B := w.heap.size + 1) O0 O1 (by omega) (by omega) (((Below.refl _ _).alloc (Nat.le_refl _) _).trans (hbz1.mono (by omega))) (set2_oth _ _ _ _) (by simp) (by omega) (by simp; omega) s0 s1 (fun z hz => by omega), ?_⟩
  exact (((hbW.mono hz).setCell (by show w.heap.size + 1 ≤ w1.heap.size; omega) _).setCell (by show w.heap.size + 1 ≤ w1.heap.size; omega) _)

theorem way_C {W0 w w1 w2 : World} {ob0 ob1 : Nat} {rb0 rb1 : Nat → Nat} {r c : Nat → Nat} {x y : Value} {t : TypeId} (O0 : OutM w1 (W0.alloc (.cells #[x, y] t)).drew.heap.size ob0 rb0 (r 0) (c 0) (fun _ _ => 0)) (O1 : OutM w2 w1.heap.size ob1 rb1 (r 1) (c 1) (fun _ _ => 0))
    (hbz0 : Below (W0.alloc (.cells #[x, y] t)).drew.heap.size (W0.alloc (.cells #[x, y] t)).drew w1) (hbz1 : Below w1.heap.size w1 w2) (hbW : Below W0.heap.size W0 w2) (hz : w.heap.size + 1 ≤ W0.heap.size) :
    ∃ (b5 : Nat) (ob : Nat → Nat) (rb : Nat → Nat → Nat), Value.pointer (some ⟨W0.heap.size, 0, none⟩) = .pointer (some ⟨b5, 0, none⟩) ∧
      Two ((w2.setCell ⟨W0.heap.size, 0, none⟩ (.slice (some ⟨ob0, 0, none⟩) (r 0) (r 0))).setCell ⟨W0.heap.size, 1, none⟩ (.slice (some ⟨ob1, 0, none⟩) (r 1) (r 1))) (w.heap.size + 1) b5 ob rb r c (fun _ _ _ => 0) ∧
      Below (w.heap.size + 1) W0 ((w2.setCell ⟨W0.heap.size, 0, none⟩ (.slice (some ⟨ob0, 0, none⟩) (r 0) (r 0))).setCell ⟨W0.heap.size, 1, none⟩ (.slice (some ⟨ob1, 0, none⟩) (r 1) (r 1))) := by
  have e : (W0.alloc (.cells #[x, y] t)).drew.heap.size = W0.heap.size + 1 := World.size_alloc W0 (.cells #[x, y] t)
  have hs0 := hbz0.size
  have hs1 := hbz1.size
  rw [e] at hs0
  obtain ⟨n0, n1⟩ := new_cell W0 x y t
  have lt : W0.heap.size < (W0.alloc (.cells #[x, y] t)).drew.heap.size := by rw [e]; omega
  have lt1 : W0.heap.size < w1.heap.size := by omega
  obtain ⟨s0, s1⟩ := set2_cells (.slice (some ⟨ob0, 0, none⟩) (r 0) (r 0)) (.slice (some ⟨ob1, 0, none⟩) (r 1) (r 1)) ((hbz1.cell (p := ⟨W0.heap.size, 0, none⟩) lt1).trans ((hbz0.cell (p := ⟨W0.heap.size, 0, none⟩) lt).trans n0)) ((hbz1.cell (p := ⟨W0.heap.size, 1, none⟩) lt1).trans ((hbz0.cell (p := ⟨W0.heap.size, 1, none⟩) lt).trans n1))
  refine ⟨_, two ob0 ob1, twoF rb0 rb1, rfl, Two_make (B := w.heap.size + 1) O0 O1 (by omega) (Nat.le_refl _) hbz1 (set2_oth _ _ _ _) (by simp) (by omega) (by simp; omega) s0 s1 (fun z hz => by omega), ?_⟩
  exact (((hbW.mono hz).setCell (by show w.heap.size + 1 ≤ W0.heap.size; omega) _).setCell (by show w.heap.size + 1 ≤ W0.heap.size; omega) _)

theorem run_store_float (P : Program) (w : World) (a : Addr) (m : Mode) (k : FloatKind) (b : Nat) : (store a (.float k b) m).run P w = stored P w a (.float k b) m := run_store P w a _ m rfl
attribute [local go_sem] run_store_float

theorem Dr_below {w wx : World} (h : Dr w wx) (B : Nat) : Below B w wx := by
  obtain ⟨q, rfl⟩ := h
  exact below_drewN (Below.refl _ _) q

theorem OutM_last {w : World} {b ob : Nat} {rb : Nat → Nat} {r c : Nat} {Z : Nat → Nat → Nat} (h : OutM w (b + 1) ob rb r c Z) (v0 v1 : Value) : OutM ((w.setCell ⟨b, 0, none⟩ v0).setCell ⟨b, 1, none⟩ v1) b ob rb r c Z := by
  have hg := h.ob_ge
  have hl := h.ob_lt
  refine ⟨by omega, by simpa using hl, fun i hi => ?_, h.rb_ne, h.rb_inj, fun i hi => ?_, fun i j hi hj => ?_⟩
  · have := h.rb_ge i hi
    exact ⟨by omega, by simpa using this.2⟩
  · rw [(set2_oth w b v0 v1 ⟨ob, i, none⟩ hl (by show ob ≠ b; omega)).1]
    exact h.top i hi
  · have hr := h.rb_ge i hi
    obtain ⟨e1, e2⟩ := set2_oth w b v0 v1 ⟨rb i, j, none⟩ hr.2 (by show rb i ≠ b; omega)
    rw [e1, e2]
    exact h.cel i j hi hj

theorem Mat_at {w wx : World} {a : Option Addr} {n c : Nat} {X : Nat → Nat → Nat} (m : Nonempty (Mat w a n (fun _ => c) X)) (hb : Below w.heap.size w wx) {i j : Nat} (hi : i < n) (hj : j < c) :
    ∃ mb mo mC mrb mro, a = some ⟨mb, mo, none⟩ ∧ wx.cell? ⟨mb, mo + i, none⟩ = some (.slice (some ⟨mrb, mro, none⟩) c mC) ∧ wx.cell? ⟨mrb, mro + j, none⟩ = some (.float .f64 (X i j)) := by
  obtain ⟨m⟩ := m
  refine ⟨m.b, m.o, m.C i, m.rb i, m.ro i, m.ad (by omega), ?_, ?_⟩
  · rw [hb.cell (p := ⟨m.b, m.o + i, none⟩) (m.b_lt (by omega)), (m.tops i hi).1, m.rad i hi (by omega)]
  · rw [hb.cell (p := ⟨m.rb i, m.ro i + j, none⟩) (m.rb_lt i hi (by omega))]
    exact m.row i hi j hj

/-- The two pairs, in their block. -/
def Q56 (wx : World) (b : Nat) (ob r : Nat → Nat) (a : Nat → Option Addr) (cp : Nat → Nat) : Prop := ∀ q, q < 2 → wx.cell? ⟨b, q * 2, none⟩ = some (.slice (some ⟨ob q, 0, none⟩) (r q) (r q)) ∧ wx.cell? ⟨b, q * 2 + 1, none⟩ = some (.slice (a q) (r q) (cp q))

theorem Q56_init (W : World) (b : Nat) (hb : b = W.heap.size) (ob r : Nat → Nat) (a : Nat → Option Addr) (cp : Nat → Nat) (t : TypeId) :
    Q56 (W.alloc (.cells #[.slice (some ⟨ob 0, 0, none⟩) (r 0) (r 0), .slice (a 0) (r 0) (cp 0), .slice (some ⟨ob 1, 0, none⟩) (r 1) (r 1), .slice (a 1) (r 1) (cp 1)] t)) b ob r a cp := by
  intro q hq
  subst hb
  have : q = 0 ∨ q = 1 := by omega
  rcases this with rfl | rfl
  · rw [World.cell?_alloc_new, World.cell?_alloc_new]; exact ⟨rfl, rfl⟩
  · rw [World.cell?_alloc_new, World.cell?_alloc_new]; exact ⟨rfl, rfl⟩

theorem Q56_below {w w' : World} {b : Nat} {ob r : Nat → Nat} {a : Nat → Option Addr} {cp : Nat → Nat} (h : Q56 w b ob r a cp) (hb : Below w.heap.size w w') (hlt : b < w.heap.size) : Q56 w' b ob r a cp :=
  fun q hq => ⟨(hb.cell (p := ⟨b, q * 2, none⟩) hlt).trans (h q hq).1, (hb.cell (p := ⟨b, q * 2 + 1, none⟩) hlt).trans (h q hq).2⟩

theorem Q56_set {w : World} {b : Nat} {ob r : Nat → Nat} {a : Nat → Option Addr} {cp : Nat → Nat} (h : Q56 w b ob r a cp) (g j : Nat) (v : Value) (hne : g ≠ b) : Q56 (w.setCell ⟨g, j, none⟩ v) b ob r a cp :=
  fun q hq => ⟨(World.cell?_setCell_other _ _ _ _ (by simp [hne])).trans (h q hq).1, (World.cell?_setCell_other _ _ _ _ (by simp [hne])).trans (h q hq).2⟩

theorem cell_set_ne {w : World} {b o : Nat} {u : Value} (h : w.cell? ⟨b, o, none⟩ = some u) (g j : Nat) (v : Value) (hne : g ≠ b) : (w.setCell ⟨g, j, none⟩ v).cell? ⟨b, o, none⟩ = some u :=
  (World.cell?_setCell_other _ _ _ _ (by simp [hne])).trans h

theorem St_top {B b5 : Nat} {ob : Nat → Nat} {rb : Nat → Nat → Nat} {r c : Nat → Nat} {wt : Nat → Nat} {X : Nat → Nat → Nat → Nat → Nat} {k p i j : Nat} {w : World} (h : St B b5 ob rb r c wt X k p i j w) (hp : p < 2) {i' : Nat} (hi : i' < r p) :
    w.cell? ⟨ob p, i', none⟩ = some (.slice (some ⟨rb p i', 0, none⟩) (c p) (c p)) := by
  obtain ⟨Z, h1, _⟩ := h
  exact (h1.om p hp).top i' hi

set_option maxRecDepth 20000 in
set_option maxHeartbeats 2000000 in
theorem combine25 (bn cn K bw nw cw : Nat) (r c : Nat → Nat) (a : Nat → Nat → Option Addr) (cp : Nat → Nat → Nat) (wt : Nat → Nat) (X : Nat → Nat → Nat → Nat → Nat) (w : World)
    (hK : 0 < K) (hKn : K ≤ 1048576) (hnw : K ≤ nw) (hcell : ∀ k q, k < K → q < 2 → w.cell? ⟨bn, k * 2 + q, none⟩ = some (.slice (a k q) (r q) (cp k q))) (hbn : bn < w.heap.size)
    (hmat : ∀ k q, k < K → q < 2 → Nonempty (Mat w (a k q) (r q) (fun _ => c q) (X k q))) (hw : ∀ k, k < K → w.cell? ⟨bw, k, none⟩ = some (.float .f64 (wt k))) (hbw : bw < w.heap.size)
    (hr : ∀ q, q < 2 → 0 < r q ∧ r q ≤ 1048576) (hc : ∀ q, q < 2 → c q ≤ 1048576) :
    Calls Try.prog 25 #[.slice (some ⟨bn, 0, none⟩) K cn, .slice (some ⟨bw, 0, none⟩) nw cw] w fun e w' => ∃ (ob : Nat → Nat) (rb : Nat → Nat → Nat) (Z : Nat → Nat → Nat → Nat),
      e = .returned (.agg #[.slice (some ⟨ob 0, 0, none⟩) (r 0) (r 0), .slice (some ⟨ob 1, 0, none⟩) (r 1) (r 1)]) ∧ (∀ q, q < 2 → OutM w' w.heap.size (ob q) (rb q) (r q) (c q) (Z q)) ∧
      (∀ q i j, q < 2 → i < r q → j < c q → Acc wt (fun n => X n q i j) K (Z q i j)) ∧ Below w.heap.size w w' := by
  obtain ⟨m0⟩ := hmat 0 0 hK (by omega)
  obtain ⟨m1⟩ := hmat 0 1 hK (by omega)
  have hr0 := hr 0 (by omega)
  have hr1 := hr 1 (by omega)
  have hc0 := hc 0 (by omega)
  have hc1 := hc 1 (by omega)
  have t0 := (m0.tops 0 hr0.1).1
  have t1 := (m1.tops 0 hr1.1).1
  have ea0 := m0.ad hr0.1
  have ea1 := m1.ad hr1.1
  have lb0 := m0.b_lt hr0.1
  have lb1 := m1.b_lt hr1.1
  have k0 := hcell 0 0 hK (by omega)
  have k1 := hcell 0 1 hK (by omega)
  rw [ea0] at k0
  rw [ea1] at k1
  rw [Nat.add_zero] at t0 t1
  simp only [Nat.zero_mul, Nat.zero_add] at k0 k1
  generalize m0.A 0 = A0 at *
  generalize m1.A 0 = A1 at *
  generalize m0.C 0 = C0 at *
  generalize m1.C 0 = C1 at *
  generalize m0.b = mb0 at *
  generalize m1.b = mb1 at *
  generalize m0.o = mo0 at *
  generalize m1.o = mo1 at *
  have i0 : (0 : Int) < (K : Int) := by omega
  have i1 : (0 : Int) < (r 0 : Int) := by omega
  have i2 : (0 : Int) < (r 1 : Int) := by omega
  clear ea0 ea1
  go_enter Try.func25, Try.ntmps25
  go_upto_region 1 with fail
  obtain ⟨W0, hW0⟩ : ∃ W0, W0 = w.alloc (.cells #[.slice none 0 0, .slice none 0 0] 49) := ⟨_, rfl⟩
  rw [← hW0]
  have hB0 : Below w.heap.size w W0 := by rw [hW0]; exact (Below.refl _ _).alloc (Nat.le_refl _) _
  have hz0 : W0.heap.size = w.heap.size + 1 := by rw [hW0]; simp
  have c40 : W0.cell? ⟨w.heap.size, 0, none⟩ = some (.slice none 0 0) := by rw [hW0]; simp
  have c41 : W0.cell? ⟨w.heap.size, 1, none⟩ = some (.slice none 0 0) := by rw [hW0]; simp
  have f40 : W0.frozen? ⟨w.heap.size, 0, none⟩ = false := by rw [hW0]; simp
  have f41 : W0.frozen? ⟨w.heap.size, 1, none⟩ = false := by rw [hW0]; simp
  have k0' := (hB0.cell (p := ⟨bn, 0, none⟩) hbn).trans k0
  have k1' := (hB0.cell (p := ⟨bn, 1, none⟩) hbn).trans k1
  have t0' := (hB0.cell (p := ⟨mb0, mo0, none⟩) lb0).trans t0
  have t1' := (hB0.cell (p := ⟨mb1, mo1, none⟩) lb1).trans t1
  have hz0a : w.heap.size + 1 ≤ W0.heap.size := by omega
  have hz0b : W0.heap.size ≤ w.heap.size + 1 := by omega
  clear hW0 k0 k1 t0 t1 hz0
  have g1 : bn < W0.heap.size := by omega
  have g2 : mb0 < W0.heap.size := by omega
  have g3 : mb1 < W0.heap.size := by omega
  have HS : Hid (∀ W, Below W0.heap.size W0 W → Below W0.heap.size W0 W ∧ W.cell? ⟨bn, 0, none⟩ = some (.slice (some ⟨mb0, mo0, none⟩) (r 0) (cp 0 0)) ∧ W.cell? ⟨bn, 1, none⟩ = some (.slice (some ⟨mb1, mo1, none⟩) (r 1) (cp 0 1)) ∧ W.cell? ⟨mb0, mo0, none⟩ = some (.slice A0 (c 0) C0) ∧ W.cell? ⟨mb1, mo1, none⟩ = some (.slice A1 (c 1) C1)) := fun W h =>
    ⟨h, (h.cell (p := ⟨bn, 0, none⟩) g1).trans k0', (h.cell (p := ⟨bn, 1, none⟩) g1).trans k1', (h.cell (p := ⟨mb0, mo0, none⟩) g2).trans t0', (h.cell (p := ⟨mb1, mo1, none⟩) g3).trans t1'⟩
  go_cut [5] from 12 to 38 (fun v5 wx => ∃ (b5 : Nat) (ob : Nat → Nat) (rb : Nat → Nat → Nat), v5 = .pointer (some ⟨b5, 0, none⟩) ∧ Two wx (w.heap.size + 1) b5 ob rb r c (fun _ _ _ => 0) ∧ Below (w.heap.size + 1) W0 wx)
  case first =>
    have hBB : Below W0.heap.size W0 W0 := Below.refl _ _
    go_region_held3 (fun W => Below W0.heap.size W0 W ∧ W.cell? ⟨bn, 0, none⟩ = some (.slice (some ⟨mb0, mo0, none⟩) (r 0) (cp 0 0)) ∧ W.cell? ⟨bn, 1, none⟩ = some (.slice (some ⟨mb1, mo1, none⟩) (r 1) (cp 0 1)) ∧ W.cell? ⟨mb0, mo0, none⟩ = some (.slice A0 (c 0) C0) ∧ W.cell? ⟨mb1, mo1, none⟩ = some (.slice A1 (c 1) C1)) (first | exact HS.out _ (by assumption) | exact HS.out _ (Below.drew (by assumption)) | exact HS.out _ (Below.drew (Below.alloc (by assumption) (by first | exact Below.size (And.left (by assumption)) | exact Nat.le_refl _ | omega | (simp; omega) | simp) _)) | exact HS.out _ (Below.alloc (And.left (by assumption)) (by first | exact Below.size (And.left (by assumption)) | exact Nat.le_refl _ | omega | (simp; omega) | simp) _) | exact HS.out _ (Below.alloc (by assumption) (by first | exact Below.size (by assumption) | exact Nat.le_refl _ | omega | (simp; omega) | simp) _) | exact HS.out _ (Below.trans (And.left (by assumption)) (Below.mono hbz (by first | exact Below.size (And.left (by assumption)) | exact Nat.le_refl _ | omega | (simp; omega) | simp))) | exact HS.out _ (Below.setCell (Below.setCell (And.left (by assumption)) (by first | exact Below.size (by assumption) | exact Nat.le_refl _ | omega | (simp; omega) | simp) _) (by first | exact Below.size (by assumption) | exact Nat.le_refl _ | omega | (simp; omega) | simp) _)) (first | (go_at_call_of 28 (r 0); refine (zeros28 (r 0) (c 0) _ hr0.2 hc0).mono ?_; rintro e w' ⟨ob0, rb0, rfl, O0, hbz⟩; have hbW : Below W0.heap.size W0 w' := Below.trans (And.left (by assumption)) (Below.mono hbz (Below.size (And.left (by assumption)))); obtain ⟨hbc, hbf⟩ := bcell hbz; have hbz0 := hbz; have hz1 : W0.heap.size < w'.heap.size := lt_chain (Below.size (And.left (by assumption))) O0.ob_ge O0.ob_lt) | (go_at_call_of 28 (r 1); refine (zeros28 (r 1) (c 1) _ hr1.2 hc1).mono ?_; rintro e w' ⟨ob1, rb1, rfl, O1, hbz⟩; have hbW : Below W0.heap.size W0 w' := Below.trans (And.left (by assumption)) (Below.mono hbz (Below.size (And.left (by assumption)))); obtain ⟨hbc, hbf⟩ := bcell hbz; have hbz1 := hbz; have hz1 : W0.heap.size < w'.heap.size := lt_chain (Below.size (And.left (by assumption))) O1.ob_ge O1.ob_lt))
    all_goals go_wp2
    all_goals go_meet
    · case rel =>
      have hs1 := hbz1.size
      refine ⟨_, two ob0 ob1, twoF rb0 rb1, rfl, Two_make (B := w.heap.size + 1) O0 O1 (by simpa using hz0a) (Nat.le_refl _) hbz1 (alloc_oth _ _ _) (by simp) (by omega) (by simp) (by simp) (by simp) (fun x hx => by omega), ?_⟩
      exact (hbW.mono hz0a).alloc (by omega) _
    · case rel => exact way_B O0 O1 hbz1 hbW (by assumption) hz0a (Nat.le_refl _)
    · case rel => exact way_C O0 O1 hbz0 hbz1 hbW hz0a
  case rest =>
  obtain ⟨b5, ob, rb, rfl, hTwo, hBW⟩ := hcut
  have hSt : St (w.heap.size + 1) b5 ob rb r c wt X 0 0 0 0 wc := ⟨_, hTwo, fun q i j hq hi hj => by
    have : cnt 0 0 0 0 q i j = 0 := by unfold cnt; rw [if_neg (by omega)]
    rw [this]; rfl⟩
  have HC : Hid (∀ k q, k < K → q < 2 → w.cell? ⟨bn, k * 2 + q, none⟩ = some (.slice (a k q) (r q) (cp k q))) := hcell
  have HM : Hid (∀ k q, k < K → q < 2 → Nonempty (Mat w (a k q) (r q) (fun _ => c q) (X k q))) := hmat
  have HW : Hid (∀ k, k < K → w.cell? ⟨bw, k, none⟩ = some (.float .f64 (wt k))) := hw
  have HR : Hid (∀ q, q < 2 → 0 < r q ∧ r q ≤ 1048576) := hr
  have HCC : Hid (∀ q, q < 2 → c q ≤ 1048576) := hc
  clear hcell hmat hw hr hc HS m0 m1 hr0 hr1 hc0 hc1 lb0 lb1 i1 i2 k0' k1' t0' t1' g2 g3 hTwo
  go_wp2
  go_loopg [41] K (fun g v wx => ∃ k : Nat, v = .int .i64 k ∧ k ≤ K ∧ g = K - k ∧ St (w.heap.size + 1) b5 ob rb r c wt X k 0 0 0 wx ∧ Below (w.heap.size + 1) W0 wx)
  case atStart => exact ⟨0, rfl, Nat.zero_le _, rfl, hSt, hBW⟩
  case round =>
  clear hSt hBW
  obtain ⟨k, rfl, hk, hg, hSt, hBW⟩ := hrel
  have hBin : Below w.heap.size w wr := hB0.trans (hBW.mono (by omega))
  obtain ⟨Z1, hTwo⟩ := St_two hSt
  have s50 := hTwo.s5 0 (by omega)
  have s51 := hTwo.s5 1 (by omega)
  have b5lt := hTwo.b5_lt
  by_cases hlt : k < K
  · have n0 := (hBin.cell (p := ⟨bn, k * 2 + 0, none⟩) hbn).trans (HC.out k 0 hlt (by omega))
    have n1 := (hBin.cell (p := ⟨bn, k * 2 + 1, none⟩) hbn).trans (HC.out k 1 hlt (by omega))
    rw [Nat.add_zero] at n0
    have HRB : Hid (∀ q i, q < 2 → i < r q → rb q i < wr.heap.size) := fun q i hq hi => ((hTwo.om q hq).rb_ge i hi).2
    have hblt : bn < wr.heap.size := by have := hBin.size; omega
    clear hTwo
    go_wp2
    obtain ⟨W2, hW2⟩ : ∃ W2, W2 = (wr.alloc (.cells #[.slice (a k 0) (r 0) (cp k 0), .slice (a k 1) (r 1) (cp k 1)] 49)).alloc (.cells #[.slice (some ⟨ob 0, 0, none⟩) (r 0) (r 0), .slice (a k 0) (r 0) (cp k 0), .slice (some ⟨ob 1, 0, none⟩) (r 1) (r 1), .slice (a k 1) (r 1) (cp k 1)] 54) := ⟨_, rfl⟩
    rw [← hW2]
    have hB2 : Below wr.heap.size wr W2 := by rw [hW2]; exact ((Below.refl _ _).alloc (Nat.le_refl _) _).alloc (by simp) _
    have hQ : Q56 W2 (wr.heap.size + 1) ob r (a k) (cp k) := by rw [hW2]; exact Q56_init _ _ (by simp) ob r (a k) (cp k) 54
    have hz2 : wr.heap.size + 1 < W2.heap.size := by rw [hW2]; simp
    have hSt2 := St_below hSt hB2
    have hBW2 : Below (w.heap.size + 1) W0 W2 := hBW.trans (hB2.mono (by have := hBW.size; omega))
    obtain ⟨b56, hb56⟩ : ∃ b, b = wr.heap.size + 1 := ⟨_, rfl⟩
    rw [← hb56] at hQ hz2 ⊢
    have h56a : wr.heap.size < b56 := by omega
    have HRB2 : Hid (∀ q i, q < 2 → i < r q → rb q i < b56) := fun q i hq hi => by have := HRB.out q i hq hi; omega
    clear hW2 n0 n1 hSt hBW hB2 hBin s50 s51 b5lt HRB hb56
    generalize hbq : wr.heap.size = bq at *
    obtain ⟨wq, rfl⟩ : ∃ wq : World, wq = wr := ⟨_, rfl⟩
    go_wp2
    go_loopg [58] 2 (fun g v wx => ∃ p : Nat, v = .int .i64 p ∧ p ≤ 2 ∧ g = 2 - p ∧ St (w.heap.size + 1) b5 ob rb r c wt X k p 0 0 wx ∧ Below (w.heap.size + 1) W0 wx ∧ b56 < wx.heap.size ∧ Q56 wx b56 ob r (a k) (cp k))
    case atStart => exact ⟨0, rfl, by omega, rfl, hSt2, hBW2, hz2, hQ⟩
    case round =>
    clear hSt2 hBW2 hz2 hQ hbq
    obtain ⟨p, rfl, hp, hgp, hSt, hBW, hz, hQ⟩ := hrel
    by_cases hp2 : p < 2
    · obtain ⟨q0, q1⟩ := hQ p hp2
      have hrp := HR.out p hp2
      have hcp := HCC.out p hp2
      obtain ⟨ob', hob⟩ : ∃ x, x = ob p := ⟨_, rfl⟩
      obtain ⟨r', hr'⟩ : ∃ x, x = r p := ⟨_, rfl⟩
      obtain ⟨a', ha'⟩ : ∃ x, x = a k p := ⟨_, rfl⟩
      obtain ⟨cp', hcp'⟩ : ∃ x, x = cp k p := ⟨_, rfl⟩
      rw [← hob, ← hr'] at q0
      rw [← ha', ← hr', ← hcp'] at q1
      have HO : Hid (ob' = ob p) := hob
      have HRR : Hid (r' = r p) := hr'
      have HA : Hid (a' = a k p) := ha'
      have hrp1 : 0 < r' := by omega
      have hrp2 : r' ≤ 1048576 := by omega
      have hSt3 := St_below hSt ((Below.refl wr.heap.size wr).alloc (Nat.le_refl _) (.cells #[.slice (some ⟨ob', 0, none⟩) r' r', .slice a' r' cp'] 54))
      have hQ3 := Q56_below hQ ((Below.refl wr.heap.size wr).alloc (Nat.le_refl _) (.cells #[.slice (some ⟨ob', 0, none⟩) r' r', .slice a' r' cp'] 54)) hz
      have hBW3 : Below (w.heap.size + 1) W0 (wr.alloc (.cells #[.slice (some ⟨ob', 0, none⟩) r' r', .slice a' r' cp'] 54)) := hBW.alloc (by have := hBW.size; omega) _
      clear hob hr' ha' hcp' hrp hQ hSt hBW
      have hp2i : (p : Int) < 2 := by omega
      go_wp2
      obtain ⟨W3, hW3⟩ : ∃ W3, W3 = wr.alloc (.cells #[.slice (some ⟨ob', 0, none⟩) r' r', .slice a' r' cp'] 54) := ⟨_, rfl⟩
      rw [← hW3] at hSt3 hQ3 hBW3 ⊢
      have c90 : W3.cell? ⟨wr.heap.size, 0, none⟩ = some (.slice (some ⟨ob', 0, none⟩) r' r') := by rw [hW3]; exact (new_cell _ _ _ _).1
      have c91 : W3.cell? ⟨wr.heap.size, 1, none⟩ = some (.slice a' r' cp') := by rw [hW3]; exact (new_cell _ _ _ _).2
      have hz3 : wr.heap.size < W3.heap.size := by rw [hW3]; simp
      obtain ⟨b9, hb9⟩ : ∃ b, b = wr.heap.size := ⟨_, rfl⟩
      rw [← hb9] at c90 c91 hz3 hz ⊢
      clear hW3 q0 q1 hb9
      obtain ⟨wv, rfl⟩ : ∃ wv : World, wv = wr := ⟨_, rfl⟩
      go_loopg [65] r' (fun g v wx => ∃ i : Nat, v = .int .i64 i ∧ i ≤ r' ∧ g = r' - i ∧ St (w.heap.size + 1) b5 ob rb r c wt X k p i 0 wx ∧ Below (w.heap.size + 1) W0 wx ∧ b9 < wx.heap.size ∧ Q56 wx b56 ob r (a k) (cp k) ∧ wx.cell? ⟨b9, 0, none⟩ = some (.slice (some ⟨ob', 0, none⟩) r' r') ∧ wx.cell? ⟨b9, 1, none⟩ = some (.slice a' r' cp'))
      case atStart => exact ⟨0, rfl, by omega, rfl, hSt3, hBW3, hz3, hQ3, c90, c91⟩
      case round =>
      clear hSt3 hBW3 hz3 hQ3 c90 c91
      obtain ⟨i, rfl, hi, hgi, hSt, hBW, hz9, hQ, c90, c91⟩ := hrel
      by_cases hir : i < r'
      · have hir2 : i < r p := by have := HRR.out; omega
        have top := St_top hSt hp2 hir2
        obtain ⟨c', hc'⟩ : ∃ x, x = c p := ⟨_, rfl⟩
        obtain ⟨g', hg'⟩ : ∃ x, x = rb p i := ⟨_, rfl⟩
        rw [← HO.out, ← hg', ← hc'] at top
        have HCp : Hid (c' = c p) := hc'
        have HG : Hid (g' = rb p i) := hg'
        have hcc : c' ≤ 1048576 := by omega
        have hg56 : g' < b56 := by rw [HG.out]; exact HRB2.out p i hp2 hir2
        clear hc' hg'
        go_wp2
        obtain ⟨wi, rfl⟩ : ∃ wi : World, wi = wr := ⟨_, rfl⟩
        go_loopg [74] c' (fun g v wx => ∃ j : Nat, v = .int .i64 j ∧ j ≤ c' ∧ g = c' - j ∧ St (w.heap.size + 1) b5 ob rb r c wt X k p i j wx ∧ Below (w.heap.size + 1) W0 wx ∧ b9 < wx.heap.size ∧ Q56 wx b56 ob r (a k) (cp k) ∧ wx.cell? ⟨b9, 0, none⟩ = some (.slice (some ⟨ob', 0, none⟩) r' r') ∧ wx.cell? ⟨b9, 1, none⟩ = some (.slice a' r' cp'))
        case atStart => exact ⟨0, rfl, by omega, rfl, hSt, hBW, hz9, hQ, c90, c91⟩
        case round =>
        clear hSt hBW hz9 hQ c90 c91 top
        obtain ⟨j, rfl, hj, hgj, hSt, hBW, hz9, hQ, c90, c91⟩ := hrel
        by_cases hjc : j < c'
        · have hjc2 : j < c p := by have := HCp.out; omega
          have top := St_top hSt hp2 hir2
          rw [← HO.out, ← HG.out, ← HCp.out] at top
          obtain ⟨y, cy, fy⟩ := St_cell hSt hp2 hir2 hjc2
          have hBin : Below w.heap.size w wr := hB0.trans (hBW.mono (by omega))
          have cw' := (hBin.cell (p := ⟨bw, k, none⟩) hbw).trans (HW.out k hlt)
          obtain ⟨mb, mo, mC, mrb, mro, ea, tm, rm⟩ := Mat_at (HM.out k p hlt hp2) hBin hir2 hjc2
          rw [← HCp.out] at tm
          have c91o := c91
          rw [HA.out, ea] at c91
          rw [← HG.out] at cy fy
          obtain ⟨mv, mw, hmul⟩ := mul_fn (wt k) (X k p i j)
          obtain ⟨av, aw, hadd⟩ := add_fn y
          have hm1 : ∀ W, (binOp .mul 32 (.float .f64 (wt k)) (.float .f64 (X k p i j))).run Try.prog W = .ok (.float .f64 (mv W)) (mw W) := fun W => (hmul W).1
          have ha1 : ∀ p W, (binOp .add 32 (.float .f64 y) (.float .f64 p)).run Try.prog W = .ok (.float .f64 (av p W)) (aw p W) := fun p W => (hadd p W).1
          have hmc : ∀ W x, (mw W).cell? x = World.cell? W x := fun W x => (hmul W).2.2.cell x
          have hac : ∀ p W x, (aw p W).cell? x = World.cell? W x := fun p W x => (hadd p W).2.2.cell x
          have hmf : ∀ W x, (mw W).frozen? x = World.frozen? W x := fun W x => by obtain ⟨q, e⟩ := (hmul W).2.2; rw [e]; rfl
          have haf : ∀ p W x, (aw p W).frozen? x = World.frozen? W x := fun p W x => by obtain ⟨q, e⟩ := (hadd p W).2.2; rw [e]; rfl
          have HMUL : Hid (∀ W, MulR (wt k) (X k p i j) (mv W) ∧ Dr W (mw W)) := fun W => (hmul W).2
          have HADD : Hid (∀ p W, AddR y p (av p W) ∧ Dr W (aw p W)) := fun p W => (hadd p W).2
          have i1 : (i : Int) < (r' : Int) := by omega
          have i2 : (j : Int) < (c' : Int) := by omega
          have i3 : (k : Int) < (nw : Int) := by omega
          have i4 : (0 : Int) ≤ (i : Int) := by omega
          have i5 : (0 : Int) ≤ (j : Int) := by omega
          have i6 : (0 : Int) ≤ (k : Int) := by omega
          clear hmul hadd ea hBin
          obtain ⟨x, hx⟩ : ∃ x, x = X k p i j := ⟨_, rfl⟩
          obtain ⟨wk, hwk⟩ : ∃ x, x = wt k := ⟨_, rfl⟩
          rw [← hx] at rm hm1
          rw [← hwk] at cw' hm1
          have HX : Hid (x = X k p i j) := hx
          have HWK : Hid (wk = wt k) := hwk
          clear hx hwk
          have cyA : (aw (mv wr.drew) (mw wr.drew)).cell? ⟨g', j, none⟩ = some (.float .f64 y) := by rw [hac, hmc]; exact cy
          have fyA : (aw (mv wr.drew) (mw wr.drew)).frozen? ⟨g', j, none⟩ = false := by rw [haf, hmf]; exact fy
          go_wp2
          go_region
          have hBD : Below wr.heap.size wr (aw (mv wr.drew) (mw wr.drew)) := ((Below.refl _ _).drew.trans (Dr_below (HMUL.out wr.drew).2 _)).trans (Dr_below (HADD.out _ _).2 _)
          have hSt5 := St_write (St_below hSt hBD) hp2 hir2 hjc2 (by rw [← HG.out]; exact cyA) (HMUL.out wr.drew).1 (HADD.out (mv wr.drew) (mw wr.drew)).1
          rw [← HG.out] at hSt5
          have hgB : w.heap.size + 1 ≤ g' := by
            obtain ⟨Z2, hT2⟩ := St_two hSt
            rw [HG.out]; exact ((hT2.om p hp2).rb_ge i hir2).1
          have hBW5 := (hBW.trans (hBD.mono (by have := hBW.size; omega))).setCell (p := ⟨g', j, none⟩) hgB (.float .f64 (av (mv wr.drew) (mw wr.drew)))
          have hQ5 := Q56_set (Q56_below hQ hBD (by omega)) g' j (.float .f64 (av (mv wr.drew) (mw wr.drew))) (by omega)
          have c905 := cell_set_ne ((hBD.cell (p := ⟨b9, 0, none⟩) hz9).trans c90) g' j (.float .f64 (av (mv wr.drew) (mw wr.drew))) (by omega)
          have c915 := cell_set_ne ((hBD.cell (p := ⟨b9, 1, none⟩) hz9).trans c91o) g' j (.float .f64 (av (mv wr.drew) (mw wr.drew))) (by omega)
          have hz5 : b9 < ((aw (mv wr.drew) (mw wr.drew)).setCell ⟨g', j, none⟩ (.float .f64 (av (mv wr.drew) (mw wr.drew)))).heap.size := by rw [World.size_setCell]; have := hBD.size; omega
          clear hBD hSt hBW hQ c90 c91 cyA fyA hmc hac hmf haf hm1 ha1 HMUL HADD
          go_wp2
          go_roundg (c' - (j + 1))
          case measure => omega
          case rel => exact ⟨j + 1, by go_num, by omega, rfl, hSt5, hBW5, hz5, hQ5, c905, c915⟩
        · have hSt6 := St_row hSt (by have := HCp.out; omega)
          go_wp2
          go_roundg (r' - (i + 1))
          case measure => omega
          case rel => exact ⟨i + 1, by go_num, by omega, rfl, hSt6, hBW, hz9, hQ, c90, c91⟩
      · have hSt6 := St_mat hSt (by have := HRR.out; omega)
        go_wp2
        go_roundg (2 - (p + 1))
        case measure => omega
        case rel => exact ⟨p + 1, by go_num, by omega, rfl, hSt6, hBW, by omega, hQ⟩
    · have hSt6 := St_net hSt (by omega)
      go_wp2
      go_roundg (K - (k + 1))
      case measure => omega
      case rel => exact ⟨k + 1, by go_num, by omega, rfl, hSt6, hBW⟩
  · have hkK : k = K := by omega
    obtain ⟨Z, hT, hAcc⟩ := hSt
    have HAcc : Hid (∀ q i' j', q < 2 → i' < r q → j' < c q → Acc wt (fun n => X n q i' j') (cnt k 0 0 0 q i' j') (Z q i' j')) := hAcc
    have d40 := (hBW.cell (p := ⟨w.heap.size, 0, none⟩) (by simp)).trans c40
    have d41 := (hBW.cell (p := ⟨w.heap.size, 1, none⟩) (by simp)).trans c41
    have e40 := (hBW.frozen (p := ⟨w.heap.size, 0, none⟩) (by simp)).trans f40
    have e41 := (hBW.frozen (p := ⟨w.heap.size, 1, none⟩) (by simp)).trans f41
    clear hAcc c40 c41 f40 f41
    go_wp2
    refine bodyPost_ret (v := .agg #[.slice (some ⟨ob 0, 0, none⟩) (r 0) (r 0), .slice (some ⟨ob 1, 0, none⟩) (r 1) (r 1)]) (by simp [results, Try.results25, go_sem, d40, d41]) rfl ⟨ob, rb, Z, rfl, ?_, ?_, ?_⟩
    · exact fun q hq => OutM_last (hT.om q hq) _ _
    · intro q i' j' hq hi hj
      have h1 := HAcc.out q i' j' hq hi hj
      have e : cnt k 0 0 0 q i' j' = K := by unfold cnt; rw [if_neg (by omega), hkK]
      rw [e] at h1
      exact h1
    · exact (hBin.setCell (Nat.le_refl _) _).setCell (Nat.le_refl _) _
end Go.Proofs.Qxb6606270a
