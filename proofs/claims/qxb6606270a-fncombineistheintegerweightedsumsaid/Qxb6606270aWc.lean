import Derived.Test.Qxb6606270aWb
set_option linter.unusedSimpArgs false
set_option linter.unusedVariables false
namespace Go.Proofs.Qxb6606270a
open Go.RowKit

/-- A row of floats in memory. -/
def Fr (w : World) (b o n : Nat) (X : Nat → Nat) : Prop := ∀ j, j < n → w.cell? ⟨b, o + j, none⟩ = some (.float .f64 (X j))

/-- A matrix of floats in memory: n rows; row i has L i cells. -/
structure Mat (w : World) (a : Option Addr) (n : Nat) (L : Nat → Nat) (X : Nat → Nat → Nat) where
  b : Nat
  o : Nat
  A : Nat → Option Addr
  C : Nat → Nat
  rb : Nat → Nat
  ro : Nat → Nat
  n_le : n ≤ 9223372036854775807
  ad : 0 < n → a = some ⟨b, o, none⟩
  b_lt : 0 < n → b < w.heap.size
  tops : Tops w b o n A L C
  rad : ∀ i, i < n → 0 < L i → A i = some ⟨rb i, ro i, none⟩
  rb_lt : ∀ i, i < n → 0 < L i → rb i < w.heap.size
  row : ∀ i, i < n → Fr w (rb i) (ro i) (L i) (X i)

set_option maxHeartbeats 400000 in
theorem same26 (x y : Nat) (w : World) : Calls Try.prog 26 #[.float .f64 x, .float .f64 y] w fun e w' => e = .returned (.bool (sameB x y)) ∧ w' = w := by
  have hf : FloatKind.f64.format = D := rfl
  go_enter Try.func26, Try.ntmps26
  go_wp2
  all_goals go_ret
  all_goals (refine ⟨ret_bool ?_, rfl⟩; unfold sameB; go_light; simp_all)

/-- wx is w with some draws made. -/
def Dr (w wx : World) : Prop := ∃ q, wx = w.drewN q
theorem Dr.refl (w : World) : Dr w w := ⟨0, rfl⟩
theorem Dr.cell {w wx : World} (h : Dr w wx) (x : Addr) : wx.cell? x = w.cell? x := by obtain ⟨q, rfl⟩ := h; rfl
theorem Dr.more {w wx : World} (h : Dr w wx) (n : Nat) : Dr w (wx.drewN n) := by obtain ⟨q, rfl⟩ := h; exact ⟨q + n, World.drewN_drewN _ _ _⟩

set_option maxHeartbeats 1000000 in
theorem sameMat16 (a1 a2 : Option Addr) (c1 c2 n : Nat) (L : Nat → Nat) (X Y : Nat → Nat → Nat) (w : World) (m1 : Mat w a1 n L X) (m2 : Mat w a2 n L Y) (hs : ∀ i j, i < n → j < L i → sameB (X i j) (Y i j) = true) :
    Calls Try.prog 16 #[.slice a1 n c1, .slice a2 n c2] w fun e w' => e = .returned (.bool true) ∧ Dr w w' := by
  obtain ⟨b1, o1, A1, C1, rb1, ro1, hn, ad1, bl1, t1, rad1, rl1, row1⟩ := m1
  obtain ⟨b2, o2, A2, C2, rb2, ro2, _, ad2, bl2, t2, rad2, rl2, row2⟩ := m2
  have HS : Hid (∀ i j, i < n → j < L i → sameB (X i j) (Y i j) = true) := hs
  clear hs bl1 bl2 rl1 rl2
  go_enter Try.func16, Try.ntmps16
  go_wp2
  go_loopg [5] n (fun g v5 wx => (∃ (i : Nat), v5 = .int .i64 i ∧ i ≤ n ∧ g = n - i ∧ Dr w wx))
  case atStart => exact ⟨0, rfl, Nat.zero_le _, rfl, Dr.refl _⟩
  case round =>
  obtain ⟨i, rfl, hi, hg, hD⟩ := hrel
  by_cases hlt : i < n
  · obtain rfl := ad1 (by omega)
    obtain rfl := ad2 (by omega)
    obtain ⟨k1, hL⟩ := t1 i hlt
    obtain ⟨k2, _⟩ := t2 i hlt
    have r1 := row1 i hlt
    have r2 := row2 i hlt
    have q1 := rad1 i hlt
    have q2 := rad2 i hlt
    have hs := fun j => HS.out i j hlt
    have HS2 : Hid (∀ j, j < L i → sameB (X i j) (Y i j) = true) := hs
    have K1 := (hD.cell _).trans k1
    have K2 := (hD.cell _).trans k2
    clear hs t1 t2 row1 row2 rad1 rad2 ad1 ad2 HS
    generalize A1 i = a1 at *
    generalize A2 i = a2 at *
    go_wp2
    go_quiet (fail)
    have hD2 := hD.more nq
    generalize hW : wr.drewN nq = W at *
    clear hW K1 K2 hD
    obtain ⟨wo, rfl⟩ : ∃ wo : World, wo = wr := ⟨_, rfl⟩
    go_wp2
    go_loopg [6] (L i) (fun g v6 wx => (∃ (j : Nat), v6 = .int .i64 j ∧ j ≤ L i ∧ g = L i - j ∧ Dr w wx))
    case atStart => exact ⟨0, rfl, Nat.zero_le _, rfl, hD2⟩
    case round =>
    clear hD2
    obtain ⟨j, rfl, hj, hgj, hD⟩ := hrel
    have K1 := (hD.cell _).trans k1
    have K2 := (hD.cell _).trans k2
    by_cases hjl : j < L i
    · obtain rfl := q1 (by omega)
      obtain rfl := q2 (by omega)
      have K3 := (hD.cell _).trans (r1 j hjl)
      have K4 := (hD.cell _).trans (r2 j hjl)
      have hsame := HS2.out j hjl
      have C := fun nq => same26 (X i j) (Y i j) (wr.drewN nq)
      rw [hsame] at C
      clear hsame r1 r2 q1 q2 k1 k2
      generalize X i j = x at *
      generalize Y i j = y at *
      go_wp2
      go_quiet ((go_at_call 26; exact Calls.quiet_of_same (C _)))
      go_wp2
      go_roundg (L i - (j + 1))
      case measure => omega
      case rel => exact ⟨j + 1, by go_num, by omega, rfl, hD.more _⟩
    · go_wp2
      go_roundg (n - (i + 1))
      case measure => omega
      case rel => exact ⟨i + 1, by go_num, by omega, rfl, hD⟩
  · go_wp2
    go_ret
    exact ⟨rfl, hD⟩
end Go.Proofs.Qxb6606270a
