/-
  Plain facts on 64-bit floats as the model's Ieee core reads and writes them: what is exact stays exact. No program in this text.
-/
import Derived.Laws.FloatArith
namespace Go.Proofs.Qxb6606270a
open Ieee

abbrev D : Format := Ieee.double

theorem leastD : D.leastPlace = -1074 := by decide
theorem binadeD : D.binade = 4503599627370496 := by decide
theorem infD : D.infRung = 2047 * 4503599627370496 := by decide
theorem signD : D.signWeight = 9223372036854775808 := by decide

/-- A magnitude and a place as the format itself writes them. -/
def Canon (m : Nat) (e : Int) : Prop := -1074 ≤ e ∧ e ≤ 971 ∧ m < 9007199254740992 ∧ (e = -1074 ∨ 4503599627370496 ≤ m)

/-- Every word is one of three. -/
theorem read_shape (x : Nat) : (∃ s m e, D.read x = .number s m e ∧ Canon m e) ∨ (∃ s, D.read x = .infinity s) ∨ ∃ s f, D.read x = .nan s f := by
  unfold Format.read
  rw [leastD, binadeD, infD, signD]
  simp only
  have hr : x % 9223372036854775808 < 9223372036854775808 := Nat.mod_lt _ (by omega)
  generalize x % 9223372036854775808 = r at *
  split
  · exact .inl ⟨_, _, _, rfl, by unfold Canon; omega⟩
  · split
    · refine .inl ⟨_, _, _, rfl, ?_⟩
      unfold Canon
      omega
    · split
      · exact .inr (.inl ⟨_, rfl⟩)
      · exact .inr (.inr ⟨_, _, rfl⟩)

/-- The word of a sign and a rung below infinity's reads as the rung says. -/
theorem read_word (s : Bool) (m : Nat) (e : Int) (h : Canon m e) : D.read (D.word s ((e + 1074).toNat * 4503599627370496 + m)) = .number s m e := by
  obtain ⟨h1, h2, h3, h4⟩ := h
  unfold Format.read Format.word
  rw [leastD, binadeD, infD, signD]
  obtain ⟨k, hk⟩ : ∃ k : Nat, e = (k : Int) - 1074 := ⟨(e + 1074).toNat, by omega⟩
  subst hk
  have hk : k ≤ 2045 := by omega
  rw [show ((k : Int) - 1074 + 1074).toNat = k by omega]
  have hr : k * 4503599627370496 + m < 9223372036854775808 := by omega
  have e1 : (if s then 9223372036854775808 + (k * 4503599627370496 + m) else k * 4503599627370496 + m) % 9223372036854775808 = k * 4503599627370496 + m := by
    split <;> omega
  have e2 : ((if s then 9223372036854775808 + (k * 4503599627370496 + m) else k * 4503599627370496 + m) / 9223372036854775808 % 2 == 1) = s := by
    cases s
    · simp; omega
    · simp; omega
  simp only
  rw [e1, e2]
  by_cases hm : m < 4503599627370496
  · have : k = 0 := by omega
    subst this
    rw [if_pos (by omega)]
    simp
  · rw [if_neg (by omega), if_pos (by omega)]
    congr 1
    · omega
    · omega

theorem read_zero (s : Bool) : D.read (D.word s 0) = .number s 0 (-1074) := by
  have := read_word s 0 (-1074) (by unfold Canon; omega)
  simpa using this

theorem read_inf (s : Bool) : D.read (D.write (.infinity s)) = .infinity s := by
  cases s <;> decide

theorem log2_mul_pow (m t : Nat) (h : 0 < m) : (m * 2 ^ t).log2 = m.log2 + t := by
  have hp : 0 < 2 ^ t := Nat.pow_pos (by omega)
  have hne : m * 2 ^ t ≠ 0 := Nat.ne_of_gt (Nat.mul_pos h hp)
  have h1 : 2 ^ m.log2 ≤ m := Nat.log2_self_le (by omega)
  have h2 : m < 2 ^ (m.log2 + 1) := Nat.lt_log2_self
  apply Nat.le_antisymm
  · have : (m * 2 ^ t).log2 < m.log2 + t + 1 := by
      rw [Nat.log2_lt hne, show m.log2 + t + 1 = (m.log2 + 1) + t by omega, Nat.pow_add]
      exact Nat.mul_lt_mul_of_pos_right h2 hp
    omega
  · rw [Nat.le_log2 hne, Nat.pow_add]
    exact Nat.mul_le_mul_right _ h1

theorem log2_canon {m : Nat} {e : Int} (h : Canon m e) (hm : 0 < m) : max (e + m.log2 - 52) (-1074) = e := by
  obtain ⟨h1, h2, h3, h4⟩ := h
  have hlt : m.log2 < 53 := (Nat.log2_lt (by omega)).2 (by simpa using h3)
  rcases h4 with h4 | h4
  · omega
  · have : 52 ≤ m.log2 := (Nat.le_log2 (by omega)).2 (by simpa using h4)
    omega

theorem cut_zero (neg : Bool) (n : Nat) : Toward.even.cut neg n 0 = n := by
  unfold Toward.cut
  simp [Nat.mod_one]

theorem cut_exact (neg : Bool) (m t : Nat) (hm : 0 < m) : Toward.even.cut neg (m * 2 ^ t) t = m := by
  have hp : 0 < 2 ^ t := Nat.pow_pos (by omega)
  unfold Toward.cut
  rw [log2_mul_pow m t hm, Nat.min_eq_left (by omega)]
  simp only [Nat.one_shiftLeft]
  rw [Nat.mul_div_cancel _ hp, Nat.mul_mod_left]
  simp

theorem frac52 : D.fractionBits = 52 := rfl

/-- A number that the format has, written with t digits more behind, is found again. -/
theorem near_down (s : Bool) (m t : Nat) (e : Int) (h : Canon m e) (hm : 0 < m) : D.read (D.nearest s (m * 2 ^ t) (e - t)) = .number s m e := by
  have hp : 0 < 2 ^ t := Nat.pow_pos (by omega)
  have hl := log2_canon h hm
  unfold Format.nearest
  rw [if_neg (Nat.ne_of_gt (Nat.mul_pos hm hp)), log2_mul_pow m t hm, leastD, frac52, binadeD, infD]
  have e1 : max (e - (t : Int) + ((m.log2 + t : Nat) : Int) - ((52 : Nat) : Int)) (-1074) = e := by
    rw [← hl]; omega
  simp only
  rw [e1]
  have e2 : (e - (t : Int) - e).toNat = 0 := by omega
  have e3 : (e - (e - (t : Int))).toNat = t := by omega
  rw [e2, e3, Nat.shiftLeft_zero, cut_exact s m t hm]
  obtain ⟨h1, h2, h3, h4⟩ := h
  rw [show e - -1074 = e + 1074 by omega, Nat.min_eq_left (by omega)]
  exact read_word s m e ⟨h1, h2, h3, h4⟩

/-- .. or with u digits fewer. -/
theorem near_up (s : Bool) (n u : Nat) (e : Int) (h : Canon (n * 2 ^ u) e) (hn : 0 < n) : D.read (D.nearest s n (e + u)) = .number s (n * 2 ^ u) e := by
  have hp : 0 < 2 ^ u := Nat.pow_pos (by omega)
  have hm : 0 < n * 2 ^ u := Nat.mul_pos hn hp
  have hl := log2_canon h hm
  rw [log2_mul_pow n u hn] at hl
  unfold Format.nearest
  rw [if_neg (by omega), leastD, frac52, binadeD, infD]
  have e1 : max (e + (u : Int) + (n.log2 : Int) - ((52 : Nat) : Int)) (-1074) = e := by
    rw [← hl]; omega
  simp only
  rw [e1]
  have e2 : (e + (u : Int) - e).toNat = u := by omega
  have e3 : (e - (e + (u : Int))).toNat = 0 := by omega
  rw [e2, e3, Nat.shiftLeft_eq, cut_zero]
  obtain ⟨h1, h2, h3, h4⟩ := h
  rw [show e - -1074 = e + 1074 by omega, Nat.min_eq_left (by omega)]
  exact read_word s _ e ⟨h1, h2, h3, h4⟩

/-! ### what an operation may give -/
/-- A not-a-number. -/
def Nan (x : Nat) : Prop := ∃ s f, D.read x = .nan s f
def MulR (x y r : Nat) : Prop := D.mul x y = some r ∨ (D.mul x y = none ∧ Nan r)
def AddR (x y r : Nat) : Prop := D.add x y = some r ∨ (D.add x y = none ∧ Nan r)

/-- Equal, or both not-a-number. -/
def sameB (x y : Nat) : Bool := (D.order x y == some .eq) || ((D.order x x != some .eq) && (D.order y y != some .eq))

theorem order_nan {x : Nat} (h : Nan x) : (D.order x x != some .eq) = true := by
  obtain ⟨s, f, h⟩ := h
  unfold Format.order
  rw [h]; rfl

theorem one_read : D.read 4607182418800017408 = .number false 4503599627370496 (-52) := by decide
theorem zero_read : D.read 0 = .number false 0 (-1074) := by decide

theorem signed_nat (m u : Nat) : signed false m u = (m : Int) * 2 ^ u := by
  unfold signed
  rw [Nat.shiftLeft_eq]
  simp
theorem signed_neg (m u : Nat) : signed true m u = -((m : Int) * 2 ^ u) := by
  unfold signed
  rw [Nat.shiftLeft_eq]
  simp

theorem order_same {x y : Nat} {s t : Bool} {m : Nat} {e : Int} (hx : D.read x = .number s m e) (hy : D.read y = .number t m e) (h : s = t ∨ m = 0) : D.order x y = some .eq := by
  unfold Format.order
  rw [hx, hy]
  simp only [Datum.order]
  have : signed s m (e - min e e).toNat = signed t m (e - min e e).toNat := by
    rcases h with rfl | rfl
    · rfl
    · cases s <;> cases t <;> simp [signed]
  rw [this]
  simp

/-- One network at weight one: nought and once x is x, or both are not-a-number. -/
theorem one_same {x p z : Nat} (hm : MulR 4607182418800017408 x p) (ha : AddR 0 p z) : sameB z x = true := by
  unfold sameB
  rcases read_shape x with ⟨s, m, e, hx, hc⟩ | ⟨s, hx⟩ | ⟨s, f, hx⟩
  · -- a number
    have hmul : D.mul 4607182418800017408 x = some (D.nearest s (4503599627370496 * m) (-52 + e)) := by
      unfold Format.mul
      rw [one_read, hx]
      simp [Datum.product, Format.write]
    have hp : p = D.nearest s (4503599627370496 * m) (-52 + e) := by
      rcases hm with hm | hm
      · rw [hmul] at hm; exact (Option.some.inj hm).symm
      · rw [hmul] at hm; cases hm.1
    by_cases h0 : m = 0
    · subst h0
      have hp' : D.read p = .number s 0 (-1074) := by
        rw [hp]
        have : D.nearest s (4503599627370496 * 0) (-52 + e) = D.word s 0 := by simp [Format.nearest]
        rw [this]
        exact read_zero s
      have hadd : D.add 0 p = some (D.word false 0) := by
        unfold Format.add
        rw [zero_read, hp']
        cases s <;> decide
      have hz : z = D.word false 0 := by
        rcases ha with ha | ha
        · rw [hadd] at ha; exact (Option.some.inj ha).symm
        · rw [hadd] at ha; cases ha.1
      have hzr : D.read z = .number false 0 (-1074) := by rw [hz]; exact read_zero false
      have : D.order z x = some .eq := by
        unfold Format.order
        rw [hzr, hx]
        cases s <;> simp [Datum.order, signed]
      rw [this]; rfl
    · have hp' : D.read p = .number s m e := by
        rw [hp]
        have := near_down s m 52 e hc (by omega)
        rw [show m * 2 ^ 52 = 4503599627370496 * m by omega, show e - ((52 : Nat) : Int) = -52 + e by omega] at this
        exact this
      obtain ⟨k, hk⟩ : ∃ k : Nat, e = (k : Int) - 1074 := ⟨(e + 1074).toNat, by have := hc.1; omega⟩
      have hadd : D.add 0 p = some (D.nearest s (m * 2 ^ k) (-1074)) := by
        unfold Format.add
        rw [zero_read, hp']
        have hmin : min (-1074) e = -1074 := by omega
        have hpos : 0 < m * 2 ^ k := Nat.mul_pos (by omega) (Nat.pow_pos (by omega))
        simp only [Datum.sum, hmin, Option.map_some, Option.some.injEq]
        have ek : (e - -1074).toNat = k := by omega
        rw [ek]
        have ez : signed false 0 (-1074 - -1074 : Int).toNat = 0 := by decide
        rw [ez, Int.zero_add]
        have ecast : ((m * 2 ^ k : Nat) : Int) = (m : Int) * 2 ^ k := by simp
        cases s
        · rw [signed_nat, ← ecast]
          have hne : ¬ ((m * 2 ^ k : Nat) : Int) = 0 := by omega
          have hlt : ¬ ((m * 2 ^ k : Nat) : Int) < 0 := by omega
          rw [if_neg hne, Int.natAbs_natCast]
          simp only [hlt, decide_false]
          rfl
        · rw [signed_neg, ← ecast]
          have hne : ¬ -((m * 2 ^ k : Nat) : Int) = 0 := by omega
          have hlt : -((m * 2 ^ k : Nat) : Int) < 0 := by omega
          rw [if_neg hne, Int.natAbs_neg, Int.natAbs_natCast]
          simp only [hlt, decide_true]
          rfl
      have hz : z = D.nearest s (m * 2 ^ k) (-1074) := by
        rcases ha with ha | ha
        · rw [hadd] at ha; exact (Option.some.inj ha).symm
        · rw [hadd] at ha; cases ha.1
      have hzr : D.read z = .number s m e := by
        rw [hz]
        have := near_down s m k e hc (by omega)
        rw [show e - (k : Int) = -1074 by omega] at this
        exact this
      rw [order_same hzr hx (.inl rfl)]; rfl
  · -- an infinity
    have hmul : D.mul 4607182418800017408 x = some (D.write (.infinity s)) := by
      unfold Format.mul
      rw [one_read, hx]
      cases s <;> rfl
    have hp : p = D.write (.infinity s) := by
      rcases hm with hm | hm
      · rw [hmul] at hm; exact (Option.some.inj hm).symm
      · rw [hmul] at hm; cases hm.1
    have hadd : D.add 0 p = some (D.write (.infinity s)) := by
      unfold Format.add
      rw [zero_read, hp, read_inf]
      rfl
    have hz : z = D.write (.infinity s) := by
      rcases ha with ha | ha
      · rw [hadd] at ha; exact (Option.some.inj ha).symm
      · rw [hadd] at ha; cases ha.1
    have : D.order z x = some .eq := by
      unfold Format.order
      rw [hz, read_inf, hx]
      cases s <;> rfl
    rw [this]; rfl
  · -- not a number
    have hmul : D.mul 4607182418800017408 x = none := by
      unfold Format.mul
      rw [one_read, hx]
      rfl
    have hp : Nan p := by
      rcases hm with hm | hm
      · rw [hmul] at hm; cases hm
      · exact hm.2
    have hadd : D.add 0 p = none := by
      obtain ⟨s', f', hp⟩ := hp
      unfold Format.add
      rw [zero_read, hp]
      rfl
    have hz : Nan z := by
      rcases ha with ha | ha
      · rw [hadd] at ha; cases ha
      · exact ha.2
    rw [order_nan hz, order_nan ⟨s, f, hx⟩]
    simp

end Go.Proofs.Qxb6606270a
