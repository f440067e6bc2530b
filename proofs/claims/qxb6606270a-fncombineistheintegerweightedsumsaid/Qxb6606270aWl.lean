import Derived.Test.Qxb6606270aWk
set_option linter.unusedSimpArgs false
set_option linter.unusedVariables false
namespace Go.Proofs.Qxb6606270a
open Go.RowKit
attribute [local go_sem] run_store_float

/-- A sum of whole numbers. -/
def wsum (f : Nat → Int) : Nat → Int
  | 0 => 0
  | k + 1 => wsum f k + f k

theorem prod_bd {x y : Int} (x0 : -32768 ≤ x) (x1 : x ≤ 32767) (y0 : -32768 ≤ y) (y1 : y ≤ 32767) : -1073741824 ≤ x * y ∧ x * y ≤ 1073741824 := by
  have h1 : x.natAbs ≤ 32768 := by omega
  have h2 : y.natAbs ≤ 32768 := by omega
  have h3 : (x * y).natAbs ≤ 32768 * 32768 := by rw [Int.natAbs_mul]; exact Nat.mul_le_mul h1 h2
  omega

theorem wsum_bd {f : Nat → Int} {K : Nat} (h : ∀ k, k < K → -1073741824 ≤ f k ∧ f k ≤ 1073741824) : ∀ k, k ≤ K → -1073741824 * (k : Int) ≤ wsum f k ∧ wsum f k ≤ 1073741824 * (k : Int)
  | 0, _ => by simp [wsum]
  | k + 1, hk => by
    have h1 := wsum_bd h k (by omega)
    have h2 := h k (by omega)
    unfold wsum
    omega

/-- What a cell holds behind k networks of whole numbers. -/
theorem Acc_Vi {wt X : Nat → Nat} {a b : Nat → Int} {K : Nat} (hK : K ≤ 131072) (hw : ∀ k, k < K → Vi (wt k) (a k)) (hX : ∀ k, k < K → Vi (X k) (b k)) (hb : ∀ k, k < K → -1073741824 ≤ a k * b k ∧ a k * b k ≤ 1073741824) :
    ∀ k z, k ≤ K → Acc wt X k z → Vi z (wsum (fun k => a k * b k) k)
  | 0, z, _, h => by
    have : z = 0 := h
    rw [this]
    exact Vi_zero
  | k + 1, z, hk, h => by
    obtain ⟨y, p, hy, hm, ha⟩ := h
    have v1 := Acc_Vi hK hw hX hb k y (by omega) hy
    have b1 := wsum_bd hb k (by omega)
    have b2 := hb k (by omega)
    have v2 := Vi_mul (hw k (by omega)) (hX k (by omega)) (by omega) hm
    have b3 : -1073741824 * (k : Int) ≤ wsum (fun k => a k * b k) k := b1.1
    have b4 := b1.2
    show Vi z (wsum (fun k => a k * b k) k + a k * b k)
    generalize wsum (fun k => a k * b k) k = S at *
    exact Vi_add v1 v2 (by omega) ha

theorem ICube_at {w wx : World} {a : Option Addr} {K r q : Nat} {N : Nat → Nat} {L : Nat → Nat → Nat} {X : Nat → Nat → Nat → Int} (m : Nonempty (ICube w a K N L X)) (hN : ∀ k, k < K → N k = r ∧ ∀ i, i < r → L k i = q) (hD : Dr w wx)
    {k i j : Nat} (hk : k < K) (hi : i < r) (hj : j < q) :
    ∃ cb co cC mb mo mC mrb mro, a = some ⟨cb, co, none⟩ ∧ wx.cell? ⟨cb, co + k, none⟩ = some (.slice (some ⟨mb, mo, none⟩) r cC) ∧ wx.cell? ⟨mb, mo + i, none⟩ = some (.slice (some ⟨mrb, mro, none⟩) q mC) ∧
      wx.cell? ⟨mrb, mro + j, none⟩ = some (.int .i16 (X k i j)) ∧ -32768 ≤ X k i j ∧ X k i j ≤ 32767 := by
  obtain ⟨cu⟩ := m
  obtain ⟨⟨mb, mo, mA, mC, mrb, mro, mn, mad, mbl, mt, mrad, mrl, mrow⟩⟩ := cu.mat k hk
  obtain ⟨e1, e2⟩ := hN k hk
  have e3 := e2 i hi
  have k1 := (hD.cell _).trans (cu.tops k hk).1
  have k2 := (hD.cell _).trans (mt i (by omega)).1
  have k3 := mrow i (by omega) j (by omega)
  rw [mad (by omega), e1] at k1
  rw [mrad i (by omega) (by omega), e3] at k2
  exact ⟨_, _, _, _, _, _, _, _, cu.ad (by omega), k1, k2, (hD.cell _).trans k3.1, k3.2⟩

def prodf (wt : Nat → Int) (X : Nat → Nat → Nat → Int) (i j : Nat) : Nat → Int := fun k => wt k * X k i j

set_option maxRecDepth 20000 in
set_option maxHeartbeats 2000000 in
theorem match12 (a0 : Option Addr) (r c0 q : Nat) (Z : Nat → Nat → Nat) (a1 : Option Addr) (K c1 : Nat) (N : Nat → Nat) (L : Nat → Nat → Nat) (X : Nat → Nat → Nat → Int) (aw : Option Addr) (bw ow nw cw : Nat) (wt : Nat → Int) (w : World)
    (m0 : Mat w a0 r (fun _ => q) Z) (m1 : ICube w a1 K N L X) (hK : K ≤ 131072) (hKn : K ≤ nw) (hr : r ≤ 1048576) (hq : q ≤ 1048576) (hN : ∀ k, k < K → N k = r ∧ ∀ i, i < r → L k i = q)
    (haw : 0 < nw → aw = some ⟨bw, ow, none⟩) (hw : Ir w bw ow nw wt) (hZ : ∀ i j, i < r → j < q → Vi (Z i j) (wsum (prodf wt X i j) K)) :
    Calls Try.prog 12 #[.slice a0 r c0, .slice a1 K c1, .slice aw nw cw, .int .i64 r, .int .i64 q] w fun e w' => e = .returned (.bool true) ∧ Dr w w' := by
  obtain ⟨b0, o0, A0, C0, rb0, ro0, hn0, ad0, bl0, t0, rad0, rl0, row0⟩ := m0
  have HAD : Hid (0 < r → a0 = some ⟨b0, o0, none⟩) := ad0
  have HT0 : Hid (Tops w b0 o0 r A0 (fun _ => q) C0) := t0
  have HRD : Hid (∀ i, i < r → 0 < q → A0 i = some ⟨rb0 i, ro0 i, none⟩) := rad0
  have HROW : Hid (∀ i, i < r → Fr w (rb0 i) (ro0 i) q (Z i)) := row0
  have HC : Hid (Nonempty (ICube w a1 K N L X)) := ⟨m1⟩
  have HN : Hid (∀ k, k < K → N k = r ∧ ∀ i, i < r → L k i = q) := hN
  have HAW : Hid (0 < nw → aw = some ⟨bw, ow, none⟩) := haw
  have HW : Hid (Ir w bw ow nw wt) := hw
  have HZ : Hid (∀ i j, i < r → j < q → Vi (Z i j) (wsum (prodf wt X i j) K)) := hZ
  have neq1 : ((r : Int) != (r : Int)) = false := by simp
  have neq2 : ((q : Int) != (q : Int)) = false := by simp
  clear ad0 bl0 t0 rad0 rl0 row0 m1 hN haw hw hZ
  go_enter Try.func12, Try.ntmps12
  go_wp2
  go_loopg [11] r (fun g v wx => ∃ i : Nat, v = .int .i64 i ∧ i ≤ r ∧ g = r - i ∧ Dr w wx)
  case atStart => exact ⟨0, rfl, Nat.zero_le _, rfl, Dr.refl _⟩
  case round =>
  obtain ⟨i, rfl, hi, hg, hD⟩ := hrel
  by_cases hlt : i < r
  · obtain rfl := HAD.out (by omega)
    have tc0 := (HT0.out i hlt).1
    have tc := (hD.cell _).trans tc0
    generalize hAi : A0 i = ai at *
    have HAi : Hid (A0 i = ai) := hAi
    clear hAi
    go_wp2
    obtain ⟨wo, rfl⟩ : ∃ wo : World, wo = wr := ⟨_, rfl⟩
    go_loopg [12] q (fun g v wx => ∃ j : Nat, v = .int .i64 j ∧ j ≤ q ∧ g = q - j ∧ Dr w wx)
    case atStart => exact ⟨0, rfl, Nat.zero_le _, rfl, hD⟩
    case round =>
    clear hD tc
    obtain ⟨j, rfl, hj, hgj, hD⟩ := hrel
    by_cases hjq : j < q
    · have hai := hid (HAi.out.symm.trans (HRD.out i hlt (by omega)))
      have hprod : Hid (∀ k, k < K → -1073741824 ≤ prodf wt X i j k ∧ prodf wt X i j k ≤ 1073741824) := by
        intro k hk
        obtain ⟨cu⟩ := HC.out
        obtain ⟨mk⟩ := cu.mat k hk
        obtain ⟨e1, e2⟩ := HN.out k hk
        have h1 := (mk.row i (by omega) j (by rw [e2 i hlt]; exact hjq)).2
        have h2 := (HW.out k (by omega)).2
        exact prod_bd h2.1 h2.2 h1.1 h1.2
      go_wp2
      obtain ⟨wo2, rfl⟩ : ∃ wo2 : World, wo2 = wr := ⟨_, rfl⟩
      go_loopg [13, 14] K (fun g v13 v14 wx => ∃ (s : Int) (k : Nat), v13 = .int .i64 s ∧ v14 = .int .i64 k ∧ k ≤ K ∧ g = K - k ∧ Hid (s = wsum (prodf wt X i j) k) ∧ -140737488355328 ≤ s ∧ s ≤ 140737488355328 ∧ Dr w wx)
      case atStart => exact ⟨_, 0, rfl, rfl, Nat.zero_le _, rfl, hid rfl, by omega, by omega, hD⟩
      case round =>
      clear hD
      obtain ⟨s, k, rfl, rfl, hk, hgk, hs, hs0, hs1, hD⟩ := hrel
      by_cases hkK : k < K
      · obtain ⟨cb, co, cC, mb, mo, mC, mrb, mro, ea, k1, k2, k3, x0, x1⟩ := ICube_at HC.out HN.out hD hkK hlt hjq
        obtain rfl := ea
        obtain rfl := HAW.out (by omega)
        obtain ⟨wc0, w0, w1⟩ := HW.out k (by omega)
        have wc := (hD.cell _).trans wc0
        obtain ⟨pb0, pb1⟩ := prod_bd w0 w1 x0 x1
        have hs2 : Hid (s + wt k * X k i j = wsum (prodf wt X i j) (k + 1)) := by rw [hs.out]; rfl
        have hbd := wsum_bd hprod.out (k + 1) (by omega)
        rw [← hs2.out] at hbd
        obtain ⟨hbd0, hbd1⟩ := hbd
        clear wc0
        generalize wt k = x at *
        generalize X k i j = y at *
        have i1 : (i : Int) < (r : Int) := by omega
        have i2 : (j : Int) < (q : Int) := by omega
        have i3 : (k : Int) < (K : Int) := by omega
        have i3' : (k : Int) < (nw : Int) := by omega
        have i4 : (0 : Int) ≤ (i : Int) := by omega
        have i5 : (0 : Int) ≤ (j : Int) := by omega
        have i6 : (0 : Int) ≤ (k : Int) := by omega
        go_wp2
        go_quiet (fail)
        go_wp2
        go_roundg (K - (k + 1))
        case measure => omega
        case rel => exact ⟨_, k + 1, rfl, by go_num, by omega, rfl, hs2, by omega, by omega, hD.more _⟩
      · have hkK2 : k = K := by omega
        have hv := HZ.out i j hlt hjq
        rw [← hkK2, ← hs.out] at hv
        have ho := Vi_eq hv (Vi_int s (by omega))
        have hne : (FloatKind.f64.format.order (Z i j) (floatOfInt .f64 s) != some .eq) = false := by
          have : FloatKind.f64.format.order (Z i j) (floatOfInt .f64 s) = some .eq := ho
          rw [this]; rfl
        have tc := (hD.cell _).trans tc0
        have rc := (hD.cell _).trans (HROW.out i hlt j hjq)
        rw [hai.out] at tc
        have i1 : (i : Int) < (r : Int) := by omega
        have i2 : (j : Int) < (q : Int) := by omega
        have i4 : (0 : Int) ≤ (i : Int) := by omega
        have i5 : (0 : Int) ≤ (j : Int) := by omega
        clear hv ho
        generalize Z i j = z at *
        go_wp2
        go_roundg (q - (j + 1))
        case measure => omega
        case rel => exact ⟨j + 1, by go_num, by omega, rfl, hD⟩
    · go_wp2
      go_roundg (r - (i + 1))
      case measure => omega
      case rel => exact ⟨i + 1, by go_num, by omega, rfl, hD⟩
  · go_wp2
    go_ret
    exact ⟨rfl, hD⟩
end Go.Proofs.Qxb6606270a
