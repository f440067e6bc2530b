/-
  Plain facts: floats that stand for whole numbers below 2^53 add and multiply exactly. No program in this text.
-/
import Derived.Test.Qxb6606270aFl
namespace Go.Proofs.Qxb6606270a
open Ieee

def sg (s : Bool) (A : Nat) : Int := if s then -(A : Int) else (A : Int)
/-- The word x stands for the whole number n. -/
def Vi (x : Nat) (n : Int) : Prop := ∃ (s : Bool) (A k : Nat), D.read x = .number s (A * 2 ^ k) (-(k : Int)) ∧ n = sg s A

theorem zero_form (s : Bool) : ∃ k : Nat, Datum.number s 0 (-1074) = .number s (0 * 2 ^ k) (-(k : Int)) := by
  obtain ⟨k, hk⟩ : ∃ k : Nat, (k : Int) = 1074 := ⟨1074, rfl⟩
  exact ⟨k, by rw [Nat.zero_mul, hk]⟩

theorem near_int (s : Bool) (N K : Nat) (hN : N < 9007199254740992) : ∃ k : Nat, D.read (D.nearest s (N * 2 ^ K) (-(K : Int))) = .number s (N * 2 ^ k) (-(k : Int)) := by
  by_cases h0 : N = 0
  · subst h0
    obtain ⟨k, hk⟩ := zero_form s
    refine ⟨k, ?_⟩
    have : D.nearest s (0 * 2 ^ K) (-(K : Int)) = D.word s 0 := by simp [Format.nearest]
    rw [this, read_zero, hk]
  · have hl : N.log2 < 53 := (Nat.log2_lt h0).2 (by simpa using hN)
    have h1 : 2 ^ N.log2 ≤ N := Nat.log2_self_le h0
    have h2 : N < 2 ^ (N.log2 + 1) := Nat.lt_log2_self
    generalize N.log2 = l at *
    have hc : Canon (N * 2 ^ (52 - l)) (-((52 - l : Nat) : Int)) := by
      have e52 : (2 : Nat) ^ 52 = 2 ^ l * 2 ^ (52 - l) := by rw [← Nat.pow_add]; congr 1; omega
      have e53 : (2 : Nat) ^ 53 = 2 ^ (l + 1) * 2 ^ (52 - l) := by rw [← Nat.pow_add]; congr 1; omega
      have hp : 0 < 2 ^ (52 - l) := Nat.pow_pos (by omega)
      refine ⟨by omega, by omega, ?_, .inr ?_⟩
      · have : N * 2 ^ (52 - l) < 2 ^ 53 := by rw [e53]; exact Nat.mul_lt_mul_of_pos_right h2 hp
        simpa using this
      · have : 2 ^ 52 ≤ N * 2 ^ (52 - l) := by rw [e52]; exact Nat.mul_le_mul_right _ h1
        simpa using this
    refine ⟨52 - l, ?_⟩
    by_cases hK : 52 - l ≤ K
    · have := near_down s (N * 2 ^ (52 - l)) (K - (52 - l)) _ hc (Nat.mul_pos (by omega) (Nat.pow_pos (by omega)))
      rw [Nat.mul_assoc, ← Nat.pow_add, show 52 - l + (K - (52 - l)) = K by omega, show -((52 - l : Nat) : Int) - ((K - (52 - l) : Nat) : Int) = -(K : Int) by omega] at this
      exact this
    · have hc' : Canon (N * 2 ^ K * 2 ^ (52 - l - K)) (-((52 - l : Nat) : Int)) := by
        rw [Nat.mul_assoc, ← Nat.pow_add, show K + (52 - l - K) = 52 - l by omega]; exact hc
      have := near_up s (N * 2 ^ K) (52 - l - K) _ hc' (Nat.mul_pos (by omega) (Nat.pow_pos (by omega)))
      rw [Nat.mul_assoc N, ← Nat.pow_add, show K + (52 - l - K) = 52 - l by omega, show -((52 - l : Nat) : Int) + ((52 - l - K : Nat) : Int) = -(K : Int) by omega] at this
      exact this

theorem Vi_zero : Vi 0 0 := by
  obtain ⟨k, hk⟩ := zero_form false
  exact ⟨false, 0, k, by rw [zero_read, hk], rfl⟩

theorem Vi_int (n : Int) (h : n.natAbs < 9007199254740992) : Vi (floatOfInt .f64 n) n := by
  obtain ⟨k, hk⟩ := near_int (decide (n < 0)) n.natAbs 0 h
  refine ⟨decide (n < 0), n.natAbs, k, ?_, ?_⟩
  · have e : floatOfInt .f64 n = D.nearest (decide (n < 0)) (n.natAbs * 2 ^ 0) (-((0 : Nat) : Int)) := by
      simp [floatOfInt, FloatKind.nearest, FloatKind.encode, FloatKind.format, Format.write]
    rw [e]; exact hk
  · unfold sg
    by_cases h0 : n < 0
    · simp [h0]; omega
    · simp [h0]; omega

theorem sg_mul (s t : Bool) (A B : Nat) : sg (s ^^ t) (A * B) = sg s A * sg t B := by
  cases s <;> cases t <;> simp [sg, Int.neg_mul, Int.mul_neg]

theorem Vi_mul {x y p : Nat} {a b : Int} (hx : Vi x a) (hy : Vi y b) (hab : (a * b).natAbs < 9007199254740992) (hp : MulR x y p) : Vi p (a * b) := by
  obtain ⟨s, A, k, hx, rfl⟩ := hx
  obtain ⟨t, B, l, hy, rfl⟩ := hy
  have hmul : D.mul x y = some (D.nearest (s ^^ t) (A * B * 2 ^ (k + l)) (-((k + l : Nat) : Int))) := by
    unfold Format.mul
    rw [hx, hy]
    simp only [Datum.product, Option.map_some, Option.some.injEq, Format.write]
    rw [Nat.pow_add, show A * 2 ^ k * (B * 2 ^ l) = A * B * (2 ^ k * 2 ^ l) by rw [Nat.mul_assoc, Nat.mul_assoc, Nat.mul_left_comm (2 ^ k)], show -(k : Int) + -(l : Int) = -((k + l : Nat) : Int) by omega]
  have hp : p = D.nearest (s ^^ t) (A * B * 2 ^ (k + l)) (-((k + l : Nat) : Int)) := by
    rcases hp with hp | hp
    · rw [hmul] at hp; exact (Option.some.inj hp).symm
    · rw [hmul] at hp; cases hp.1
  have hN : A * B < 9007199254740992 := by
    rw [← sg_mul] at hab
    unfold sg at hab
    split at hab <;> omega
  obtain ⟨k', hk⟩ := near_int (s ^^ t) (A * B) (k + l) hN
  exact ⟨_, _, k', by rw [hp]; exact hk, (sg_mul s t A B).symm⟩

theorem signed_sg (s : Bool) (A k u : Nat) : signed s (A * 2 ^ k) u = sg s A * 2 ^ (k + u) := by
  cases s
  · rw [signed_nat]; simp [sg, Int.pow_add, Int.mul_assoc]
  · rw [signed_neg]; simp [sg, Int.pow_add, Int.mul_assoc, Int.neg_mul]

theorem min_neg (k l : Nat) : min (-(k : Int)) (-(l : Int)) = -((max k l : Nat) : Int) := by omega

theorem pow_pos_int (K : Nat) : (0 : Int) < 2 ^ K := Int.pow_pos (by omega)

theorem Vi_add {x y z : Nat} {a b : Int} (hx : Vi x a) (hy : Vi y b) (hab : (a + b).natAbs < 9007199254740992) (hz : AddR x y z) : Vi z (a + b) := by
  obtain ⟨s, A, k, hx, rfl⟩ := hx
  obtain ⟨t, B, l, hy, rfl⟩ := hy
  obtain ⟨K, hK⟩ : ∃ K, K = max k l := ⟨_, rfl⟩
  have htot : signed s (A * 2 ^ k) (-(k : Int) - -(K : Int)).toNat + signed t (B * 2 ^ l) (-(l : Int) - -(K : Int)).toNat = (sg s A + sg t B) * 2 ^ K := by
    rw [signed_sg, signed_sg, show k + (-(k : Int) - -(K : Int)).toNat = K by omega, show l + (-(l : Int) - -(K : Int)).toNat = K by omega, Int.add_mul]
  have habs : ((sg s A + sg t B) * 2 ^ K).natAbs = (sg s A + sg t B).natAbs * 2 ^ K := by
    rw [Int.natAbs_mul, Int.natAbs_pow]
    rfl
  have hadd : ∃ g : Bool, D.add x y = some (D.nearest g ((sg s A + sg t B).natAbs * 2 ^ K) (-(K : Int))) ∧ sg s A + sg t B = sg g (sg s A + sg t B).natAbs := by
    unfold Format.add
    rw [hx, hy]
    simp only [Datum.sum, Option.map_some, Option.some.injEq]
    rw [min_neg, ← hK, htot, habs]
    refine ⟨_, rfl, ?_⟩
    have hp := pow_pos_int K
    generalize sg s A + sg t B = n at *
    by_cases h0 : n = 0
    · subst h0; unfold sg; split <;> simp
    · have hne : ¬ n * 2 ^ K = 0 := by
        intro h
        rcases Int.mul_eq_zero.1 h with h | h
        · exact h0 h
        · omega
      rw [if_neg hne]
      by_cases hn : n < 0
      · have : n * 2 ^ K < 0 := Int.mul_neg_of_neg_of_pos hn hp
        simp [this, sg]; omega
      · have : ¬ n * 2 ^ K < 0 := by
          have := Int.mul_nonneg (show 0 ≤ n by omega) (Int.le_of_lt hp)
          omega
        simp [this, sg]; omega
  obtain ⟨g, hadd, hg⟩ := hadd
  have hz : z = D.nearest g ((sg s A + sg t B).natAbs * 2 ^ K) (-(K : Int)) := by
    rcases hz with hz | hz
    · rw [hadd] at hz; exact (Option.some.inj hz).symm
    · rw [hadd] at hz; cases hz.1
  obtain ⟨k', hk⟩ := near_int g (sg s A + sg t B).natAbs K hab
  exact ⟨_, _, k', by rw [hz]; exact hk, hg⟩

theorem Vi_eq {x y : Nat} {a : Int} (hx : Vi x a) (hy : Vi y a) : D.order x y = some .eq := by
  obtain ⟨s, A, k, hx, ha⟩ := hx
  obtain ⟨t, B, l, hy, hb⟩ := hy
  unfold Format.order
  rw [hx, hy]
  simp only [Datum.order]
  rw [min_neg, signed_sg, signed_sg, show k + (-(k : Int) - -((max k l : Nat) : Int)).toNat = max k l by omega, show l + (-(l : Int) - -((max k l : Nat) : Int)).toNat = max k l by omega, ← ha, ← hb]
  simp

end Go.Proofs.Qxb6606270a
