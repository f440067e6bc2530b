/-
  The plain law of fnmatch: patterns as rows of tokens; what a pattern matches; the greedy matcher's invariant. No program in this text.
-/
namespace Go.Proofs.Qxb6606061a

/-! ### sets -/
/-- The first place from k on that holds a closing bracket; the length where none does (and k where k lies beyond). -/
def fnd (p : List Int) (k : Nat) : Nat := k + ((p.drop k).takeWhile (fun x => x != 93)).length

theorem fnd_out (p : List Int) (k : Nat) (h : p.length ≤ k) : fnd p k = k := by
  unfold fnd
  rw [List.drop_eq_nil_of_le h]; simp

theorem drop_cons (p : List Int) (k : Nat) (h : k < p.length) : p.drop k = p[k]?.getD 0 :: p.drop (k + 1) := by
  rw [List.drop_eq_getElem_cons h]
  simp [List.getElem?_eq_getElem h]

theorem fnd_hit (p : List Int) (k : Nat) (h : k < p.length) (e : p[k]?.getD 0 = 93) : fnd p k = k := by
  unfold fnd
  rw [drop_cons p k h, e]; simp

theorem fnd_miss (p : List Int) (k : Nat) (h : k < p.length) (e : p[k]?.getD 0 ≠ 93) : fnd p k = fnd p (k + 1) := by
  unfold fnd
  rw [drop_cons p k h]
  simp [e]
  omega

theorem fnd_ge (p : List Int) (k : Nat) : k ≤ fnd p k := by unfold fnd; omega

theorem fnd_le (p : List Int) (k : Nat) (h : k ≤ p.length) : fnd p k ≤ p.length := by
  unfold fnd
  have := (List.takeWhile_sublist (fun x => x != 93) (l := p.drop k)).length_le
  simp at this
  omega

/-- '[!' opens the set. -/
def bang (p : List Int) : Bool := p[(1 : Nat)]?.getD 0 == 33
/-- Where the members start. -/
def start (p : List Int) : Nat := if bang p then 2 else 1
/-- Where the set closes; not below the length where it doesn't. -/
def cls (p : List Int) : Nat := fnd p (start p + 1)

theorem start_le (p : List Int) (h : 0 < p.length) : start p ≤ p.length := by
  unfold start bang
  split
  · rename_i hb
    by_cases h2 : 1 < p.length
    · omega
    · rw [List.getElem?_eq_none (by omega)] at hb
      simp at hb
  · omega

/-- Is c among the members? -/
def memb : List Int → Int → Bool
  | [], _ => false
  | [a], c => a == c
  | [a, b], c => a == c || b == c
  | a :: b :: d :: t, c => if b = 45 then (decide (a ≤ c) && decide (c ≤ d)) || memb t c else a == c || memb (b :: d :: t) c

theorem memb_range (m : List Int) (c : Int) (k : Nat) (h : k + 2 < m.length) (e : m[k + 1]?.getD 0 = 45) :
    memb (m.drop k) c = ((decide (m[k]?.getD 0 ≤ c) && decide (c ≤ m[k + 2]?.getD 0)) || memb (m.drop (k + 3)) c) := by
  rw [drop_cons m k (by omega), drop_cons m (k + 1) (by omega), drop_cons m (k + 1 + 1) (by omega), e]
  simp [memb]

theorem memb_one (m : List Int) (c : Int) (k : Nat) (h : k < m.length) (e : m.length ≤ k + 2 ∨ m[k + 1]?.getD 0 ≠ 45) :
    memb (m.drop k) c = (m[k]?.getD 0 == c || memb (m.drop (k + 1)) c) := by
  rw [drop_cons m k h]
  by_cases h1 : k + 1 < m.length
  · rw [drop_cons m (k + 1) h1]
    by_cases h2 : k + 2 < m.length
    · rw [drop_cons m (k + 1 + 1) (by omega)]
      have e2 : m[k + 1]?.getD 0 ≠ 45 := by
        rcases e with e | e
        · omega
        · exact e
      simp only [memb]
      rw [if_neg e2]
    · rw [List.drop_eq_nil_of_le (by omega : m.length ≤ k + 1 + 1)]
      simp [memb]
  · rw [List.drop_eq_nil_of_le (by omega : m.length ≤ k + 1)]
    simp [memb]

theorem memb_end (m : List Int) (c : Int) (k : Nat) (h : m.length ≤ k) : memb (m.drop k) c = false := by
  rw [List.drop_eq_nil_of_le h]; rfl

def members (p : List Int) : List Int := (p.take (cls p)).drop (start p)
def setAcc (p : List Int) (c : Int) : Bool := memb (members p) c != bang p

/-! ### tokens -/
/-- How many runes the element at p's head takes. -/
def tw (p : List Int) : Nat := if p[(0 : Nat)]?.getD 0 = 91 ∧ cls p < p.length then cls p + 1 else 1
/-- Does it take c? -/
def ta (p : List Int) (c : Int) : Bool :=
  if p[(0 : Nat)]?.getD 0 = 63 then true else if p[(0 : Nat)]?.getD 0 = 91 ∧ cls p < p.length then setAcc p c else p[(0 : Nat)]?.getD 0 == c

theorem tw_pos (p : List Int) : 1 ≤ tw p := by unfold tw; split <;> omega
theorem tw_le (p : List Int) (h : 0 < p.length) : tw p ≤ p.length := by unfold tw; split <;> omega

/-- A pattern as tokens: 'none' is a star. -/
def toks : Nat → List Int → List (Option (Int → Bool))
  | 0, _ => []
  | _ + 1, [] => []
  | n + 1, a :: t => if a = 42 then none :: toks n t else some (ta (a :: t)) :: toks n ((a :: t).drop (tw (a :: t)))

def T (p : List Int) : List (Option (Int → Bool)) := toks p.length p

theorem toks_enough : ∀ (n m : Nat) (p : List Int), p.length ≤ n → p.length ≤ m → toks n p = toks m p
  | 0, m, p, h, _ => by
    have : p = [] := List.length_eq_zero_iff.1 (by omega)
    subst this
    cases m <;> rfl
  | n + 1, 0, p, _, h => by
    have : p = [] := List.length_eq_zero_iff.1 (by omega)
    subst this
    rfl
  | n + 1, m + 1, [], _, _ => rfl
  | n + 1, m + 1, a :: t, h1, h2 => by
    have hw := tw_pos (a :: t)
    simp only [toks]
    simp only [List.length_cons] at h1 h2
    rw [toks_enough n m t (by omega) (by omega), toks_enough n m ((a :: t).drop (tw (a :: t))) (by simp; omega) (by simp; omega)]

theorem T_nil : T [] = [] := rfl
theorem T_star (p : List Int) (i : Nat) (h : i < p.length) (e : p[i]?.getD 0 = 42) : T (p.drop i) = none :: T (p.drop (i + 1)) := by
  rw [drop_cons p i h, e]
  unfold T
  simp [toks]
theorem T_one (p : List Int) (i : Nat) (h : i < p.length) (e : p[i]?.getD 0 ≠ 42) : T (p.drop i) = some (ta (p.drop i)) :: T (p.drop (i + tw (p.drop i))) := by
  have hw := tw_pos (p.drop i)
  have hd : p.drop (i + tw (p.drop i)) = (p.drop i).drop (tw (p.drop i)) := by rw [List.drop_drop]
  rw [hd]
  generalize hq : p.drop i = q at *
  have hq' := drop_cons p i h
  rw [hq] at hq'
  rw [hq']
  rw [hq'] at hw
  unfold T
  simp only [toks, List.length_cons]
  rw [if_neg e]
  rw [toks_enough _ ((List.drop (tw (p[i]?.getD 0 :: p.drop (i + 1))) (p[i]?.getD 0 :: p.drop (i + 1))).length) _ (by simp; omega) (Nat.le_refl _)]

/-! ### what matches -/
def anySuf (g : List Int → Bool) : List Int → Bool
  | [] => g []
  | c :: t => g (c :: t) || anySuf g t

def M : List (Option (Int → Bool)) → List Int → Bool
  | [], n => n.isEmpty
  | none :: ts, n => anySuf (M ts) n
  | some _ :: _, [] => false
  | some f :: ts, c :: n => f c && M ts n

/-- What is left behind a row of tokens that each take one rune. -/
def eat : List (Int → Bool) → List Int → Option (List Int)
  | [], n => some n
  | _ :: _, [] => none
  | f :: fs, c :: n => if f c then eat fs n else none

theorem M_eat (A : List (Int → Bool)) (ts : List (Option (Int → Bool))) : ∀ n, M (A.map some ++ ts) n = match eat A n with | none => false | some r => M ts r := by
  induction A with
  | nil => intro n; simp [eat]
  | cons f A ih =>
    intro n
    cases n with
    | nil => simp [eat, M]
    | cons c n =>
      simp only [List.map_cons, List.cons_append, M, eat]
      rw [ih]
      by_cases h : f c = true <;> simp [h]

theorem eat_len (A : List (Int → Bool)) : ∀ n r, eat A n = some r → n.length = A.length + r.length := by
  induction A with
  | nil => intro n r h; simp [eat] at h; subst h; simp
  | cons f A ih =>
    intro n r h
    cases n with
    | nil => simp [eat] at h
    | cons c n =>
      simp only [eat] at h
      split at h
      · have := ih n r h
        simp; omega
      · simp at h

theorem eat_suffix (A : List (Int → Bool)) : ∀ n r, eat A n = some r → r = n.drop A.length := by
  induction A with
  | nil => intro n r h; simp [eat] at h; subst h; simp
  | cons f A ih =>
    intro n r h
    cases n with
    | nil => simp [eat] at h
    | cons c n =>
      simp only [eat] at h
      split at h
      · have := ih n r h
        simpa using this
      · simp at h

theorem eat_snoc (A : List (Int → Bool)) (f : Int → Bool) : ∀ n, eat (A ++ [f]) n = match eat A n with | none => none | some [] => none | some (c :: r) => if f c then some r else none := by
  induction A with
  | nil =>
    intro n
    cases n with
    | nil => simp [eat]
    | cons c n => simp [eat]
  | cons g A ih =>
    intro n
    cases n with
    | nil => simp [eat]
    | cons c n =>
      simp only [List.cons_append, eat]
      rw [ih]
      by_cases h : g c = true <;> simp [h]

theorem anySuf_iff (g : List Int → Bool) : ∀ n, anySuf g n = true ↔ ∃ k, k ≤ n.length ∧ g (n.drop k) = true := by
  intro n
  induction n with
  | nil =>
    simp only [anySuf]
    constructor
    · intro h; exact ⟨0, by simp, by simpa using h⟩
    · rintro ⟨k, _, h⟩; simpa using h
  | cons c t ih =>
    simp only [anySuf, Bool.or_eq_true]
    rw [ih]
    constructor
    · rintro (h | ⟨k, hk, h⟩)
      · exact ⟨0, by simp, by simpa using h⟩
      · exact ⟨k + 1, by simp; omega, by simpa using h⟩
    · rintro ⟨k, hk, h⟩
      cases k with
      | zero => exact .inl (by simpa using h)
      | succ k => exact .inr ⟨k, by simpa using hk, by simpa using h⟩

theorem bool_eq_iff {a b : Bool} (h : a = true ↔ b = true) : a = b := by
  cases a <;> cases b <;> simp at h <;> rfl

/-- A new star behind a row that took its runes: the earlier star need not be asked again. -/
theorem anySuf_star (A : List (Int → Bool)) (ts : List (Option (Int → Bool))) (n r : List Int) (h : eat A n = some r) :
    anySuf (M (A.map some ++ none :: ts)) n = anySuf (M ts) r := by
  apply bool_eq_iff
  rw [anySuf_iff, anySuf_iff]
  have hl := eat_len A n r h
  have hr := eat_suffix A n r h
  constructor
  · rintro ⟨k, hk, hm⟩
    rw [M_eat] at hm
    split at hm
    · simp at hm
    · rename_i r' he
      have hl' := eat_len A _ r' he
      have hr' := eat_suffix A _ r' he
      simp only [M] at hm
      rw [anySuf_iff] at hm
      obtain ⟨k', hk', hm'⟩ := hm
      simp at hl'
      refine ⟨k + k', by omega, ?_⟩
      rw [hr] ; rw [hr'] at hm'
      rw [List.drop_drop, List.drop_drop] at hm'
      rw [List.drop_drop]
      have e : A.length + (k + k') = k + (A.length + k') := by omega
      rw [e]; exact hm'
  · rintro ⟨k, hk, hm⟩
    refine ⟨0, by omega, ?_⟩
    rw [List.drop_zero, M_eat, h]
    simp only [M]
    rw [anySuf_iff]
    exact ⟨k, hk, hm⟩

/-- Where the row fails at its first place, the star takes one rune more. -/
theorem anySuf_next (g : List Int → Bool) (c : Int) (t : List Int) (h : g (c :: t) = false) : anySuf g (c :: t) = anySuf g t := by
  simp [anySuf, h]

def allStar : List Int → Bool
  | [] => true
  | a :: t => a == 42 && allStar t

theorem allStar_step (p : List Int) (i : Nat) (h : i < p.length) (e : p[i]?.getD 0 = 42) : allStar (p.drop i) = allStar (p.drop (i + 1)) := by
  rw [drop_cons p i h, e]; simp [allStar]
theorem allStar_stop (p : List Int) (i : Nat) (h : i < p.length) (e : p[i]?.getD 0 ≠ 42) : allStar (p.drop i) = false := by
  rw [drop_cons p i h]; simp [allStar, e]
theorem allStar_end (p : List Int) (i : Nat) (h : p.length ≤ i) : allStar (p.drop i) = true := by
  rw [List.drop_eq_nil_of_le h]; rfl

theorem M_nil (p : List Int) : ∀ k i, p.length - i = k → M (T (p.drop i)) [] = allStar (p.drop i)
  | 0, i, h => by
    rw [List.drop_eq_nil_of_le (by omega)]; rfl
  | k + 1, i, h => by
    by_cases e : p[i]?.getD 0 = 42
    · rw [T_star p i (by omega) e, allStar_step p i (by omega) e, ← M_nil p k (i + 1) (by omega)]
      simp [M, anySuf]
    · rw [T_one p i (by omega) e, allStar_stop p i (by omega) e]
      simp [M]

/-! ### the greedy matcher's invariant -/
structure Inv (p n : List Int) (st : Int) (fr i j : Nat) : Prop where
  i_le : i ≤ p.length
  j_le : j ≤ n.length
  lo : st < 0 → M (T p) n = M (T (p.drop i)) (n.drop j)
  hi : 0 ≤ st → st.toNat < i ∧ fr ≤ j ∧ ∃ A : List (Int → Bool), T (p.drop (st.toNat + 1)) = A.map some ++ T (p.drop i) ∧ eat A (n.drop fr) = some (n.drop j) ∧
    M (T p) n = anySuf (M (T (p.drop (st.toNat + 1)))) (n.drop fr)

theorem inv_init (p n : List Int) : Inv p n (-1) 0 0 0 :=
  ⟨Nat.zero_le _, Nat.zero_le _, fun _ => by simp, fun h => by omega⟩

theorem inv_star {p n : List Int} {st : Int} {fr i j : Nat} (v : Inv p n st fr i j) (hi : i < p.length) (e : p[i]?.getD 0 = 42) : Inv p n (i : Int) j (i + 1) j := by
  refine ⟨by omega, v.j_le, fun h => by omega, fun _ => ⟨by simp, Nat.le_refl _, [], by simp, by simp [eat], ?_⟩⟩
  have hs := T_star p i hi e
  simp only [Int.toNat_natCast]
  by_cases h : st < 0
  · rw [v.lo h, hs]; rfl
  · obtain ⟨_, _, A, h3, h4, h5⟩ := v.hi (by omega)
    rw [h5, h3, hs]
    exact anySuf_star A _ _ _ h4

theorem inv_match {p n : List Int} {st : Int} {fr i j : Nat} (v : Inv p n st fr i j) (hi : i < p.length) (hj : j < n.length) (e : p[i]?.getD 0 ≠ 42) (ht : ta (p.drop i) (n[j]?.getD 0) = true) :
    Inv p n st fr (i + tw (p.drop i)) (j + 1) := by
  have hw := tw_le (p.drop i) (by simp; omega)
  simp at hw
  have h1 := tw_pos (p.drop i)
  have hs := T_one p i hi e
  refine ⟨by omega, hj, fun h => ?_, fun h => ?_⟩
  · rw [v.lo h, hs, drop_cons n j hj]
    simp [M, ht]
  · obtain ⟨h1', h2, A, h3, h4, h5⟩ := v.hi h
    refine ⟨by omega, by omega, A ++ [ta (p.drop i)], ?_, ?_, h5⟩
    · rw [h3, hs]; simp
    · rw [eat_snoc, h4, drop_cons n j hj]
      simp [ht]

/-- The token at i refuses n[j] (or there is none). -/
def refuses (p n : List Int) (i j : Nat) : Prop := p.length ≤ i ∨ (p[i]?.getD 0 ≠ 42 ∧ ta (p.drop i) (n[j]?.getD 0) = false)

theorem M_refuses {p n : List Int} {i j : Nat} (hj : j < n.length) (hr : refuses p n i j) : M (T (p.drop i)) (n.drop j) = false := by
  rcases hr with h | ⟨h1, h2⟩
  · rw [List.drop_eq_nil_of_le h, drop_cons n j hj]; rfl
  · by_cases h : i < p.length
    · rw [T_one p i h h1, drop_cons n j hj]
      simp [M, h2]
    · rw [List.drop_eq_nil_of_le (by omega), drop_cons n j hj]; rfl

theorem inv_fail {p n : List Int} {st : Int} {fr i j : Nat} (v : Inv p n st fr i j) (hst : st < 0) (hj : j < n.length) (hr : refuses p n i j) : M (T p) n = false := by
  rw [v.lo hst]; exact M_refuses hj hr

theorem inv_back {p n : List Int} {st : Int} {fr i j : Nat} (v : Inv p n st fr i j) (hst : 0 ≤ st) (hj : j < n.length) (hr : refuses p n i j) :
    Inv p n st (fr + 1) (st.toNat + 1) (fr + 1) := by
  obtain ⟨h1, h2, A, h3, h4, h5⟩ := v.hi hst
  have hi := v.i_le
  refine ⟨by omega, by omega, fun h => by omega, fun _ => ⟨by omega, Nat.le_refl _, [], by simp, by simp [eat], ?_⟩⟩
  rw [h5]
  have hm : M (T (p.drop (st.toNat + 1))) (n.drop fr) = false := by
    rw [h3, M_eat, h4]
    exact M_refuses hj hr
  rw [drop_cons n fr (by omega)] at hm ⊢
  rw [anySuf_next _ _ _ hm]

theorem inv_end {p n : List Int} {st : Int} {fr i j : Nat} (v : Inv p n st fr i j) (hj : n.length ≤ j) : M (T p) n = allStar (p.drop i) := by
  have hn : n.drop j = [] := List.drop_eq_nil_of_le hj
  by_cases h : st < 0
  · rw [v.lo h, hn]; exact M_nil p _ i rfl
  · obtain ⟨h1, h2, A, h3, h4, h5⟩ := v.hi (by omega)
    rw [h5, ← M_nil p _ i rfl]
    rw [hn] at h4
    have hl := eat_len A _ _ h4
    apply bool_eq_iff
    rw [anySuf_iff]
    constructor
    · rintro ⟨k, hk, hm⟩
      rw [h3, M_eat] at hm
      split at hm
      · simp at hm
      · rename_i r he
        have hl' := eat_len A _ r he
        simp only [List.length_drop, List.length_nil] at hl hl'
        have : r = [] := List.length_eq_zero_iff.1 (by omega)
        subst this
        exact hm
    · intro hm
      refine ⟨0, Nat.zero_le _, ?_⟩
      rw [List.drop_zero, h3, M_eat, h4]
      exact hm

/-! ### the measure -/
def mu (P N : Nat) (st : Int) (fr i : Nat) : Nat := ((P - (st + 1).toNat) * (N + 1) + (N - fr)) * (P + 1) + (P - i)

theorem mu_match (P N : Nat) (st : Int) (fr i i' : Nat) (h : i < i') (h' : i' ≤ P) : mu P N st fr i' < mu P N st fr i := by
  unfold mu; omega

theorem mu_back (P N : Nat) (st : Int) (fr i i' : Nat) (h : fr < N) : mu P N st (fr + 1) i' < mu P N st fr i := by
  unfold mu
  have e : N - fr = (N - (fr + 1)) + 1 := by omega
  rw [e, ← Nat.add_assoc, Nat.add_mul ((P - (st + 1).toNat) * (N + 1) + (N - (fr + 1))) 1 (P + 1)]
  omega

theorem mu_star (P N : Nat) (st : Int) (fr i j : Nat) (h1 : -1 ≤ st) (h2 : st < i) (h3 : i < P) : mu P N (i : Int) j (i + 1) < mu P N st fr i := by
  unfold mu
  obtain ⟨d, hd⟩ : ∃ d, P - (st + 1).toNat = d + 1 := ⟨P - (st + 1).toNat - 1, by omega⟩
  have h4 : P - ((i : Int) + 1).toNat ≤ d := by omega
  rw [hd]
  have a1 : (P - ((i : Int) + 1).toNat) * (N + 1) ≤ d * (N + 1) := Nat.mul_le_mul_right _ h4
  have a2 : (P - ((i : Int) + 1).toNat) * (N + 1) + (N - j) + 1 ≤ (d + 1) * (N + 1) + (N - fr) := by
    rw [Nat.add_mul d 1]; omega
  have a3 := Nat.mul_le_mul_right (P + 1) a2
  rw [Nat.add_mul _ 1 (P + 1)] at a3
  omega

end Go.Proofs.Qxb6606061a
