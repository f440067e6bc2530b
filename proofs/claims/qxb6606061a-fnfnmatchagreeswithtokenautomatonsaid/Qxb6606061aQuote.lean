/-
  The plain law of a quoted name: it matches the name's own runes and nothing else. No program in this text.
-/
import Derived.Test.Qxb6606061aGlob
namespace Go.Proofs.Qxb6606061a

def special (r : Int) : Bool := r == 42 || r == 63 || r == 91
def q1 (r : Int) : List Int := if special r then [91, r, 93] else [r]
def quote (l : List Int) : List Int := l.flatMap q1

theorem quote_snoc (l : List Int) (r : Int) : quote (l ++ [r]) = quote l ++ q1 r := by simp [quote]
theorem q1_length (r : Int) : (q1 r).length ≤ 3 := by unfold q1; split <;> simp
theorem quote_length (l : List Int) : (quote l).length ≤ 3 * l.length := by
  induction l with
  | nil => simp [quote]
  | cons r l ih =>
    have : quote (r :: l) = q1 r ++ quote l := by simp [quote]
    rw [this]
    have := q1_length r
    simp; omega

theorem T_quote (r : Int) (t : List Int) : ∃ f : Int → Bool, (∀ c, f c = (r == c)) ∧ T (quote (r :: t)) = some f :: T (quote t) := by
  have hq : quote (r :: t) = q1 r ++ quote t := by simp [quote]
  by_cases h : special r = true
  · have h1 : q1 r = [91, r, 93] := by simp [q1, h]
    have hp : quote (r :: t) = 91 :: r :: 93 :: quote t := by rw [hq, h1]; rfl
    have hr : r ≠ 33 := by unfold special at h; intro e; subst e; simp at h
    have hb : bang (quote (r :: t)) = false := by rw [hp]; simp [bang, hr]
    have hs : start (quote (r :: t)) = 1 := by simp [start, hb]
    have hc : cls (quote (r :: t)) = 2 := by
      unfold cls
      rw [hs]
      exact fnd_hit _ 2 (by rw [hp]; simp) (by rw [hp]; simp)
    have hl : 2 < (quote (r :: t)).length := by rw [hp]; simp
    have hw : tw (quote (r :: t)) = 3 := by
      unfold tw
      rw [hc, if_pos ⟨by rw [hp]; simp, hl⟩]
    have h0 : (quote (r :: t))[(0 : Nat)]?.getD 0 = 91 := by rw [hp]; simp
    refine ⟨ta (quote (r :: t)), fun c => ?_, ?_⟩
    · unfold ta
      rw [h0, hc, if_neg (by omega), if_pos ⟨rfl, hl⟩]
      unfold setAcc members
      rw [hb, hc, hs, hp]
      simp [memb]
    · have := T_one (quote (r :: t)) 0 (by omega) (by rw [h0]; omega)
      rw [List.drop_zero, hw] at this
      rw [this]
      have : (quote (r :: t)).drop (0 + 3) = quote t := by rw [hp]; rfl
      rw [this]
  · have h1 : q1 r = [r] := by simp [q1, h]
    have hp : quote (r :: t) = r :: quote t := by rw [hq, h1]; rfl
    unfold special at h
    have h42 : r ≠ 42 := by intro e; subst e; simp at h
    have h63 : r ≠ 63 := by intro e; subst e; simp at h
    have h91 : r ≠ 91 := by intro e; subst e; simp at h
    have h0 : (quote (r :: t))[(0 : Nat)]?.getD 0 = r := by rw [hp]; simp
    have hl : 0 < (quote (r :: t)).length := by rw [hp]; simp
    have hw : tw (quote (r :: t)) = 1 := by
      unfold tw
      rw [h0, if_neg (fun k => h91 k.1)]
    refine ⟨ta (quote (r :: t)), fun c => ?_, ?_⟩
    · unfold ta
      rw [h0, if_neg h63, if_neg (fun k => h91 k.1)]
    · have := T_one (quote (r :: t)) 0 hl (by rw [h0]; exact h42)
      rw [List.drop_zero, hw] at this
      rw [this]
      have : (quote (r :: t)).drop (0 + 1) = quote t := by rw [hp]; rfl
      rw [this]

theorem M_quote (l : List Int) : ∀ o : List Int, M (T (quote l)) o = decide (l = o) := by
  induction l with
  | nil =>
    intro o
    have : T (quote []) = [] := rfl
    rw [this]
    cases o <;> simp [M]
  | cons r l ih =>
    intro o
    obtain ⟨f, hf, hT⟩ := T_quote r l
    rw [hT]
    cases o with
    | nil => simp [M]
    | cons c o =>
      simp only [M]
      rw [ih, hf]
      by_cases h : r = c
      · subst h; simp
      · simp [h]

/-- Two rows of runes, place by place. -/
theorem eq_upto (a b : List Int) (hl : a.length = b.length) (h : ∀ k, k < a.length → a[k]?.getD 0 = b[k]?.getD 0) : a = b := by
  apply List.ext_getElem hl
  intro k h1 h2
  have := h k h1
  simpa [List.getElem?_eq_getElem h1, List.getElem?_eq_getElem h2] using this

end Go.Proofs.Qxb6606061a
