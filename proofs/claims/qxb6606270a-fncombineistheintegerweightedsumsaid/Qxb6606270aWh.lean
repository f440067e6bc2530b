import Derived.Test.Qxb6606270aWg
set_option linter.unusedSimpArgs false
set_option linter.unusedVariables false
namespace Go.Proofs.Qxb6606270a
open Go.RowKit

/-- A matrix of one's own is a matrix. -/
def OutM.mat {w : World} {B ob : Nat} {rb : Nat → Nat} {r c : Nat} {Z : Nat → Nat → Nat} (h : OutM w B ob rb r c Z) (hr : r ≤ 1048576) (hc : c ≤ 1048576) : Mat w (some ⟨ob, 0, none⟩) r (fun _ => c) Z where
  b := ob
  o := 0
  A := fun i => some ⟨rb i, 0, none⟩
  C := fun _ => c
  rb := rb
  ro := fun _ => 0
  n_le := by omega
  ad := fun _ => rfl
  b_lt := fun _ => h.ob_lt
  tops := fun i hi => ⟨by rw [Nat.zero_add]; exact h.top i hi, by show c ≤ _; omega⟩
  rad := fun _ _ _ => rfl
  rb_lt := fun i hi _ => (h.rb_ge i hi).2
  row := fun i hi j hj => by rw [Nat.zero_add]; exact (h.cel i j hi hj).1

/-- A matrix whose rows are all as long as the first. -/
def Mat.rect {w : World} {a : Option Addr} {n : Nat} {L : Nat → Nat} {X : Nat → Nat → Nat} (m : Mat w a n L X) (c : Nat) (h : ∀ i, i < n → L i = c) : Mat w a n (fun _ => c) X where
  b := m.b
  o := m.o
  A := m.A
  C := m.C
  rb := m.rb
  ro := m.ro
  n_le := m.n_le
  ad := m.ad
  b_lt := m.b_lt
  tops := fun i hi => by rw [← h i hi]; exact m.tops i hi
  rad := fun i hi hc => m.rad i hi (by rw [h i hi]; exact hc)
  rb_lt := fun i hi hc => m.rb_lt i hi (by rw [h i hi]; exact hc)
  row := fun i hi j hj => m.row i hi j (by rw [h i hi]; exact hj)

def two0 {α : Type} (x y : α) : Nat → α := fun q => if q = 0 then x else y

theorem cell_new1 (w : World) (x : Value) (t : TypeId) : (w.alloc (.cells #[x] t)).cell? ⟨w.heap.size, 0, none⟩ = some x := by
  rw [World.cell?_alloc_new]; rfl

set_option maxRecDepth 20000 in
set_option maxHeartbeats 2000000 in
theorem law4 (a1 : Option Addr) (n1 c1 : Nat) (L1 : Nat → Nat) (X1 : Nat → Nat → Nat) (a2 : Option Addr) (n2 c2 : Nat) (L2 : Nat → Nat) (X2 : Nat → Nat → Nat) (w : World) (m1 : Mat w a1 n1 L1 X1) (m2 : Mat w a2 n2 L2 X2) :
    Calls Try.prog 4 #[.slice a1 n1 c1, .slice a2 n2 c2] w fun e w' => e = .returned (.bool true) ∧ Below w.heap.size w w' := by
  have C13 := zz13 a1 m1.b m1.o n1 c1 m1.A L1 m1.C a2 m2.b m2.o n2 c2 m2.A L2 m2.C w m1.n_le m1.ad m1.tops m2.n_le m2.ad m2.tops
  have S1 := size14 a1 m1.b m1.o n1 c1 m1.A L1 m1.C w m1.n_le m1.ad m1.tops
  have S2 := size14 a2 m2.b m2.o n2 c2 m2.A L2 m2.C w m2.n_le m2.ad m2.tops
  have R1 := rect15 a1 m1.b m1.o n1 c1 m1.A L1 m1.C w m1.n_le m1.ad m1.tops
  have R2 := rect15 a2 m2.b m2.o n2 c2 m2.A L2 m2.C w m2.n_le m2.ad m2.tops
  go_enter Try.func4, Try.ntmps4
  go_wp2_with fail
  refine C13.mono ?_
  rintro e w' ⟨⟨r, rfl⟩, rfl⟩
  clear C13
  cases r with
  | false =>
    go_wp2
    go_ret
    exact ⟨rfl, Below.refl _ _⟩
  | true =>
  go_wp2_with fail
  refine S1.mono ?_
  rintro e w' ⟨s1, rfl, hs1, rfl⟩
  go_wp2_with fail
  refine S2.mono ?_
  rintro e w' ⟨s2, rfl, hs2, rfl⟩
  clear S1 S2
  obtain ⟨p1, p2, p3⟩ := hs1
  obtain ⟨q1, q2, q3⟩ := hs2
  have P3 : Hid (s1 ≤ 1048576 → n1 ≤ 131072 ∧ ∀ i, i < n1 → L1 i ≤ 131072) := p3
  have Q3 : Hid (s2 ≤ 1048576 → n2 ≤ 131072 ∧ ∀ i, i < n2 → L2 i ≤ 131072) := q3
  clear p3 q3
  by_cases hs : s1 + s2 ≤ 1048576
  · obtain ⟨hn1, hL1⟩ := P3.out (by omega)
    obtain ⟨hn2, hL2⟩ := Q3.out (by omega)
    clear P3 Q3
    go_wp2_with fail
    refine R1.mono ?_
    rintro e w' ⟨⟨t1, rfl, ht1⟩, rfl⟩
    clear R1
    cases t1 with
    | false =>
      clear R2
      go_wp2
      go_ret
      exact ⟨rfl, Below.refl _ _⟩
    | true =>
    go_wp2_with fail
    refine R2.mono ?_
    rintro e w' ⟨⟨t2, rfl, ht2⟩, rfl⟩
    clear R2
    cases t2 with
    | false =>
      go_wp2
      go_ret
      exact ⟨rfl, Below.refl _ _⟩
    | true =>
    obtain ⟨h1p, h1L⟩ := (ht1 (by simp)).out
    obtain ⟨h2p, h2L⟩ := (ht2 (by simp)).out
    have M1 := m1.rect (L1 0) h1L
    have M2 := m2.rect (L2 0) h2L
    have hc1 := hL1 0 h1p
    have hc2 := hL2 0 h2p
    have H1L : Hid (∀ i, i < n1 → L1 i = L1 0) := h1L
    have H2L : Hid (∀ i, i < n2 → L2 i = L2 0) := h2L
    clear ht1 ht2 hL1 hL2 h1L h2L
    go_wp2_with fail
    obtain ⟨W, hW⟩ : ∃ W, W = ((w.alloc (.cells #[.slice a1 n1 c1] 28)).alloc (.cells #[.slice a2 n2 c2] 28)).alloc (.cells #[.float .f64 4607182418800017408] 32) := ⟨_, rfl⟩
    rw [← hW]
    have hBW : Below w.heap.size w W := by rw [hW]; exact (((Below.refl _ _).alloc (Nat.le_refl _) _).alloc (by simp) _).alloc (by simp; omega) _
    have e1 : W.cell? ⟨w.heap.size, 0, none⟩ = some (.slice a1 n1 c1) := by rw [hW, World.cell?_alloc_past _ _ _ (by simp; omega), World.cell?_alloc_past _ _ _ (by simp)]; exact cell_new1 _ _ _
    have e2 : W.cell? ⟨w.heap.size + 1, 0, none⟩ = some (.slice a2 n2 c2) := by rw [hW, World.cell?_alloc_past _ _ _ (by simp), World.cell?_alloc_at _ _ _ _ (by simp)]; rfl
    have e3 : W.cell? ⟨w.heap.size + 1 + 1, 0, none⟩ = some (.float .f64 4607182418800017408) := by rw [hW, World.cell?_alloc_at _ _ _ _ (by simp)]; rfl
    have hz : W.heap.size = w.heap.size + 3 := by rw [hW]; simp
    have C := zzCombine11 w.heap.size 1 (w.heap.size + 1) 1 1 (w.heap.size + 1 + 1) 1 1 (two n1 n2) (two (L1 0) (L2 0)) (fun _ => two0 a1 a2) (fun _ => two c1 c2) (fun _ => 4607182418800017408) (fun _ => two0 X1 X2) W (by omega) (by omega) (by omega)
      (fun k hk => by obtain rfl : k = 0 := by omega
                      exact e1) (fun k hk => by obtain rfl : k = 0 := by omega
                                                exact e2) (by omega) (by omega)
      (fun k q hk hq => by
        have : q = 0 ∨ q = 1 := by omega
        rcases this with rfl | rfl
        · exact ⟨M1.below hBW⟩
        · exact ⟨M2.below hBW⟩)
      (fun k hk => by obtain rfl : k = 0 := by omega
                      exact e3) (by omega)
      (fun q hq => by
        have : q = 0 ∨ q = 1 := by omega
        rcases this with rfl | rfl
        · show 0 < n1 ∧ n1 ≤ 1048576; omega
        · show 0 < n2 ∧ n2 ≤ 1048576; omega)
      (fun q hq => by
        have : q = 0 ∨ q = 1 := by omega
        rcases this with rfl | rfl
        · show L1 0 ≤ 1048576; omega
        · show L2 0 ≤ 1048576; omega)
    clear hW e1 e2 e3
    refine C.mono ?_
    rintro e w2 ⟨ob, rb, Z, rfl, hO, hA, hb2⟩
    have hB2 : Below w.heap.size w w2 := hBW.trans (hb2.mono (by omega))
    have O0 : OutM w2 W.heap.size (ob 0) (rb 0) n1 (L1 0) (Z 0) := hO 0 (by omega)
    have O1 : OutM w2 W.heap.size (ob 1) (rb 1) n2 (L2 0) (Z 1) := hO 1 (by omega)
    have T1 := sameMat16 (some ⟨ob 0, 0, none⟩) a1 n1 c1 n1 (fun _ => L1 0) (Z 0) X1 w2 (O0.mat (by omega) (by omega)) (M1.below hB2) (fun i j hi hj => by
      obtain ⟨y, p, hy, hm, ha⟩ := hA 0 i j (by omega) hi hj
      have hy0 : y = 0 := hy
      rw [hy0] at ha
      exact one_same hm ha)
    have T2 := fun n => sameMat16 (some ⟨ob 1, 0, none⟩) a2 n2 c2 n2 (fun _ => L2 0) (Z 1) X2 (w2.drewN n) ((O1.mat (by omega) (by omega)).below (below_drewN (Below.refl _ _) n)) ((M2.below hB2).below (below_drewN (Below.refl _ _) n)) (fun i j hi hj => by
      obtain ⟨y, p, hy, hm, ha⟩ := hA 1 i j (by omega) hi hj
      have hy0 : y = 0 := hy
      rw [hy0] at ha
      exact one_same hm ha)
    clear C hO hA O0 O1
    have z0 : two n1 n2 0 = n1 := rfl
    have z1 : two n1 n2 1 = n2 := rfl
    rw [z0, z1]
    clear z0 z1
    go_wp2_with fail
    refine T1.mono ?_
    rintro e w3 ⟨rfl, n3, rfl⟩
    go_wp2_with fail
    refine (T2 n3).mono ?_
    rintro e w4 ⟨rfl, n4, rfl⟩
    go_wp2
    go_ret
    exact ⟨rfl, below_drewN hB2 _⟩
  · clear P3 Q3 R1 R2
    go_wp2
    go_ret
    exact ⟨rfl, Below.refl _ _⟩
end Go.Proofs.Qxb6606270a
