import Derived.Test.Qxb6606270aWf
set_option linter.unusedSimpArgs false
set_option linter.unusedVariables false
namespace Go.Proofs.Qxb6606270a
open Go.RowKit

theorem Try.info49 : (Try.prog.info? 49).map (fun i => (i.zero, i.size, i.bytes)) = some (some (.agg #[.slice none 0 0, .slice none 0 0]), 2, 48) := by kernel_rfl

def Mat.below {w w' : World} {a : Option Addr} {n : Nat} {L : Nat → Nat} {X : Nat → Nat → Nat} (m : Mat w a n L X) (hb : Below w.heap.size w w') : Mat w' a n L X where
  b := m.b
  o := m.o
  A := m.A
  C := m.C
  rb := m.rb
  ro := m.ro
  n_le := m.n_le
  ad := m.ad
  b_lt := fun h => Nat.lt_of_lt_of_le (m.b_lt h) hb.size
  tops := fun i hi => ⟨(hb.cell (p := ⟨m.b, m.o + i, none⟩) (m.b_lt (by omega))).trans (m.tops i hi).1, (m.tops i hi).2⟩
  rad := m.rad
  rb_lt := fun i hi h => Nat.lt_of_lt_of_le (m.rb_lt i hi h) hb.size
  row := fun i hi j hj => (hb.cell (p := ⟨m.rb i, m.ro i + j, none⟩) (m.rb_lt i hi (by omega))).trans (m.row i hi j hj)

theorem made2_at (x y : Value) (n j : Nat) (h : j < n) : ∃ v, (madeCells #[x, y] n).toList[j]? = some v := by
  have hs := size_madeCells #[x, y] n
  have : j < (madeCells #[x, y] n).toList.length := by simp [hs]; exact h
  exact ⟨_, List.getElem?_eq_getElem this⟩

/-- The networks laid so far. -/
structure Nt (w : World) (bn K : Nat) (r : Nat → Nat) (a : Nat → Nat → Option Addr) (cp : Nat → Nat → Nat) (k : Nat) : Prop where
  lt : bn < w.heap.size
  old : ∀ i q, i < K → q < 2 → (∃ v, w.cell? ⟨bn, i * 2 + q, none⟩ = some v) ∧ w.frozen? ⟨bn, i * 2 + q, none⟩ = false
  set : ∀ i q, i < k → q < 2 → w.cell? ⟨bn, i * 2 + q, none⟩ = some (.slice (a i q) (r q) (cp i q))

theorem Nt_step {w : World} {bn K : Nat} {r : Nat → Nat} {a : Nat → Nat → Option Addr} {cp : Nat → Nat → Nat} {k : Nat} (h : Nt w bn K r a cp k) (hk : k < K) :
    Nt ((w.setCell ⟨bn, k * 2, none⟩ (.slice (a k 0) (r 0) (cp k 0))).setCell ⟨bn, k * 2 + 1, none⟩ (.slice (a k 1) (r 1) (cp k 1))) bn K r a cp (k + 1) := by
  refine ⟨by simpa using h.lt, fun i q hi hq => ?_, fun i q hi hq => ?_⟩
  · rw [World.frozen?_setCell, World.frozen?_setCell]
    obtain ⟨v, hv⟩ := (h.old i q hi hq).1
    obtain ⟨v', hv'⟩ := cell?_setCell_some (p := ⟨bn, k * 2, none⟩) (x := .slice (a k 0) (r 0) (cp k 0)) hv
    exact ⟨cell?_setCell_some hv', (h.old i q hi hq).2⟩
  · by_cases e : i = k
    · subst e
      have : q = 0 ∨ q = 1 := by omega
      rcases this with rfl | rfl
      · obtain ⟨v, hv⟩ := (h.old i 0 hk (by omega)).1
        rw [World.cell?_setCell_other _ _ _ _ (by simp)]
        exact World.cell?_setCell_same _ _ _ hv
      · obtain ⟨v, hv⟩ := (h.old i 1 hk (by omega)).1
        exact World.cell?_setCell_same _ _ _ (by rw [World.cell?_setCell_other _ _ _ _ (by simp)]; exact hv)
    · rw [World.cell?_setCell_other _ _ _ _ (by simp <;> omega), World.cell?_setCell_other _ _ _ _ (by simp <;> omega)]
      exact h.set i q (by omega) hq

theorem Nt_drew {w : World} {bn K : Nat} {r : Nat → Nat} {a : Nat → Nat → Option Addr} {cp : Nat → Nat → Nat} {k : Nat} (h : Nt w bn K r a cp k) : Nt w.drew bn K r a cp k := ⟨h.lt, h.old, h.set⟩

set_option maxRecDepth 20000 in
set_option maxHeartbeats 2000000 in
theorem zzCombine11 (b1 c1 b2 c2 K bw nw cw : Nat) (r c : Nat → Nat) (a : Nat → Nat → Option Addr) (cp : Nat → Nat → Nat) (wt : Nat → Nat) (X : Nat → Nat → Nat → Nat → Nat) (w : World)
    (hK : 0 < K) (hKn : K ≤ 1048576) (hnw : K ≤ nw) (h1 : ∀ k, k < K → w.cell? ⟨b1, k, none⟩ = some (.slice (a k 0) (r 0) (cp k 0))) (h2 : ∀ k, k < K → w.cell? ⟨b2, k, none⟩ = some (.slice (a k 1) (r 1) (cp k 1))) (hb1 : b1 < w.heap.size) (hb2 : b2 < w.heap.size)
    (hmat : ∀ k q, k < K → q < 2 → Nonempty (Mat w (a k q) (r q) (fun _ => c q) (X k q))) (hw : ∀ k, k < K → w.cell? ⟨bw, k, none⟩ = some (.float .f64 (wt k))) (hbw : bw < w.heap.size)
    (hr : ∀ q, q < 2 → 0 < r q ∧ r q ≤ 1048576) (hc : ∀ q, q < 2 → c q ≤ 1048576) :
    Calls Try.prog 11 #[.slice (some ⟨b1, 0, none⟩) K c1, .slice (some ⟨b2, 0, none⟩) K c2, .slice (some ⟨bw, 0, none⟩) nw cw] w fun e w' => ∃ (ob : Nat → Nat) (rb : Nat → Nat → Nat) (Z : Nat → Nat → Nat → Nat),
      e = .returned (.tuple #[.slice (some ⟨ob 0, 0, none⟩) (r 0) (r 0), .slice (some ⟨ob 1, 0, none⟩) (r 1) (r 1)]) ∧ (∀ q, q < 2 → OutM w' w.heap.size (ob q) (rb q) (r q) (c q) (Z q)) ∧
      (∀ q i j, q < 2 → i < r q → j < c q → Acc wt (fun n => X n q i j) K (Z q i j)) ∧ Below w.heap.size w w' := by
  obtain ⟨i1, hi1, hz01, hz11, hz21⟩ := info_parts Try.info49
  have HM : Hid (∀ k q, k < K → q < 2 → Nonempty (Mat w (a k q) (r q) (fun _ => c q) (X k q))) := hmat
  have HW : Hid (∀ k, k < K → w.cell? ⟨bw, k, none⟩ = some (.float .f64 (wt k))) := hw
  have H1 : Hid (∀ k, k < K → w.cell? ⟨b1, k, none⟩ = some (.slice (a k 0) (r 0) (cp k 0))) := h1
  have H2 : Hid (∀ k, k < K → w.cell? ⟨b2, k, none⟩ = some (.slice (a k 1) (r 1) (cp k 1))) := h2
  have HR : Hid (∀ q, q < 2 → 0 < r q ∧ r q ≤ 1048576) := hr
  have HC : Hid (∀ q, q < 2 → c q ≤ 1048576) := hc
  clear hmat hw h1 h2 hr hc
  go_enter Try.func11, Try.ntmps11
  go_wp2_with (at_make; refine wpList_make_full _ rfl _ _ 47 rfl w.heap.size 49 i1 (.agg #[.slice none 0 0, .slice none 0 0]) 2 Try.underlying47 hi1 hz01 hz11 .i64 .i64 _ _ K rfl rfl rfl rfl ?_ ?_ ?_ ?_)
  · rw [hz21]; omega
  · unfold maxLen; omega
  · exact Nat.le_refl _
  intro W1 hown1 hgrow1
  have hB1 : Below w.heap.size w W1 := (Below.refl _ _).grown hgrow1 (Nat.le_refl _) (by intro k e; cases e)
  have N1 : Nt W1 w.heap.size K r a cp 0 := by
    refine ⟨own_lt hown1, fun i q hi hq => ⟨?_, World.ownsRow.frozenAt hown1 _⟩, fun i q hi => by omega⟩
    obtain ⟨v, hv⟩ := made2_at (.slice none 0 0) (.slice none 0 0) (K * 2) (i * 2 + q) (by omega)
    exact ⟨v, (World.ownsRow.cellAt hown1 (i * 2 + q) (by omega)).trans hv⟩
  clear hown1 hgrow1
  go_wp2
  go_loopg [16] K (fun g v wx => ∃ k : Nat, v = .int .i64 k ∧ k ≤ K ∧ g = K - k ∧ Nt wx w.heap.size K r a cp k ∧ Below w.heap.size w wx)
  case atStart => exact ⟨0, rfl, Nat.zero_le _, rfl, N1, hB1⟩
  case round =>
  clear N1 hB1
  obtain ⟨k, rfl, hk, hg, N, hB⟩ := hrel
  by_cases hlt : k < K
  · have c1' := (hB.cell (p := ⟨b1, k, none⟩) hb1).trans (H1.out k hlt)
    have c2' := (hB.cell (p := ⟨b2, k, none⟩) hb2).trans (H2.out k hlt)
    obtain ⟨⟨v0, e0⟩, f0⟩ := N.old k 0 hlt (by omega)
    obtain ⟨⟨v1, e1⟩, f1⟩ := N.old k 1 hlt (by omega)
    rw [Nat.add_zero] at e0 f0
    have N2 := Nt_step (Nt_drew N) hlt
    have hB2 := (hB.drew.setCell (p := ⟨w.heap.size, k * 2, none⟩) (Nat.le_refl _) (.slice (a k 0) (r 0) (cp k 0))).setCell (p := ⟨w.heap.size, k * 2 + 1, none⟩) (Nat.le_refl _) (.slice (a k 1) (r 1) (cp k 1))
    go_wp2
    go_region
    go_wp2
    go_roundg (K - (k + 1))
    case measure => omega
    case rel => exact ⟨k + 1, by go_num, by omega, rfl, N2, hB2⟩
  · have hkK : k = K := by omega
    rw [hkK] at N
    have C := combine25 w.heap.size K K bw nw cw r c a cp wt X wr hK hKn hnw N.set N.lt (fun k q hk hq => by obtain ⟨m⟩ := HM.out k q hk hq; exact ⟨m.below hB⟩)
      (fun k hk => (hB.cell (p := ⟨bw, k, none⟩) hbw).trans (HW.out k hk)) (by have := hB.size; omega) HR.out HC.out
    have hzs := hB.size
    clear hkK
    go_wp2_with fail
    refine C.mono ?_
    rintro e w2 ⟨ob, rb, Z, rfl, hO, hA, hb2'⟩
    have hz2 := hb2'.size
    have HO : Hid (∀ q, q < 2 → OutM w2 wr.heap.size (ob q) (rb q) (r q) (c q) (Z q)) := hO
    have HA : Hid (∀ q i j, q < 2 → i < r q → j < c q → Acc wt (fun n => X n q i j) K (Z q i j)) := hA
    clear C hO hA N
    go_wp2
    go_quiet (fail)
    go_wp2
    go_ret2
    refine ⟨ob, rb, Z, rfl, fun q hq => ?_, HA.out, ?_⟩
    · have h1 := OutM_below (HO.out q hq) (below_drewN ((Below.refl w2.heap.size w2).alloc (Nat.le_refl _) (.cells #[.slice (some ⟨ob 0, 0, none⟩) (r 0) (r 0), .slice (some ⟨ob 1, 0, none⟩) (r 1) (r 1)] 49)) nq)
      exact ⟨Nat.le_trans hzs h1.ob_ge, h1.ob_lt, fun i hi => ⟨Nat.le_trans hzs (h1.rb_ge i hi).1, (h1.rb_ge i hi).2⟩, h1.rb_ne, h1.rb_inj, h1.top, h1.cel⟩
    · exact below_drewN ((hB.trans (hb2'.mono hzs)).alloc (by omega) _) nq
end Go.Proofs.Qxb6606270a
