/-
  The plain law of the token automaton: it answers what the pattern matches. No program in this text.
-/
import Derived.Test.Qxb6606061aQuote
namespace Go.Proofs.Qxb6606061a

/-! ### intervals -/
def ivs : List Int → List (Int × Int)
  | [] => []
  | [a] => [(a, a)]
  | [a, b] => [(a, a), (b, b)]
  | a :: b :: d :: t => if b = 45 then (a, d) :: ivs t else (a, a) :: ivs (b :: d :: t)

theorem ivs_range (m : List Int) (k : Nat) (h : k + 2 < m.length) (e : m[k + 1]?.getD 0 = 45) :
    ivs (m.drop k) = (m[k]?.getD 0, m[k + 2]?.getD 0) :: ivs (m.drop (k + 3)) := by
  rw [drop_cons m k (by omega), drop_cons m (k + 1) (by omega), drop_cons m (k + 1 + 1) (by omega), e]
  simp [ivs]

theorem ivs_one (m : List Int) (k : Nat) (h : k < m.length) (e : m.length ≤ k + 2 ∨ m[k + 1]?.getD 0 ≠ 45) :
    ivs (m.drop k) = (m[k]?.getD 0, m[k]?.getD 0) :: ivs (m.drop (k + 1)) := by
  rw [drop_cons m k h]
  by_cases h1 : k + 1 < m.length
  · rw [drop_cons m (k + 1) h1]
    by_cases h2 : k + 2 < m.length
    · rw [drop_cons m (k + 1 + 1) (by omega)]
      have e2 : m[k + 1]?.getD 0 ≠ 45 := by
        rcases e with e | e
        · omega
        · exact e
      simp only [ivs]
      rw [if_neg e2]
    · rw [List.drop_eq_nil_of_le (by omega : m.length ≤ k + 1 + 1)]
      simp [ivs]
  · rw [List.drop_eq_nil_of_le (by omega : m.length ≤ k + 1)]
    simp [ivs]

theorem ivs_end (m : List Int) (k : Nat) (h : m.length ≤ k) : ivs (m.drop k) = [] := by
  rw [List.drop_eq_nil_of_le h]; rfl

def inIv (c : Int) (x : Int × Int) : Bool := decide (x.1 ≤ c) && decide (c ≤ x.2)
def inAny (l : List (Int × Int)) (c : Int) : Bool := l.any (inIv c)

theorem inIv_same (a c : Int) : inIv c (a, a) = (a == c) := by
  unfold inIv
  by_cases h : a = c
  · subst h; simp
  · have : (a == c) = false := by simpa using h
    rw [this]
    simp
    omega

theorem inAny_ivs (m : List Int) (c : Int) : ∀ n k, m.length - k = n → inAny (ivs (m.drop k)) c = memb (m.drop k) c := by
  intro n
  induction n using Nat.strongRecOn with
  | _ n ih =>
    intro k hk
    by_cases h : k < m.length
    · by_cases hr : k + 2 < m.length ∧ m[k + 1]?.getD 0 = 45
      · rw [ivs_range m k hr.1 hr.2, memb_range m c k hr.1 hr.2, ← ih (m.length - (k + 3)) (by omega) (k + 3) rfl]
        simp [inAny, inIv]
      · have e : m.length ≤ k + 2 ∨ m[k + 1]?.getD 0 ≠ 45 := by
          by_cases h2 : k + 2 < m.length
          · exact .inr (fun h3 => hr ⟨h2, h3⟩)
          · exact .inl (by omega)
        rw [ivs_one m k h e, memb_one m c k h e, ← ih (m.length - (k + 1)) (by omega) (k + 1) rfl]
        simp [inAny, inIv_same]
    · rw [ivs_end m k (by omega), memb_end m c k (by omega)]; rfl

theorem inAny_members (m : List Int) (c : Int) : inAny (ivs m) c = memb m c := by
  have := inAny_ivs m c _ 0 rfl
  simpa using this

/-! ### a token, cut out of the pattern -/
def kd (q : List Int) : Int := if q[(0 : Nat)]?.getD 0 = 91 ∧ cls q < q.length then 91 else if q[(0 : Nat)]?.getD 0 = 42 then 42 else if q[(0 : Nat)]?.getD 0 = 63 then 63 else 61

theorem take_getD (q : List Int) (n k : Nat) (h : k < n) : (q.take n)[k]?.getD 0 = q[k]?.getD 0 := by
  rw [List.getElem?_take, if_pos h]

theorem cls_ge (q : List Int) : start q + 1 ≤ cls q := fnd_ge q _
theorem start_pos (q : List Int) : 1 ≤ start q := by unfold start; split <;> omega

theorem fnd_at (p : List Int) : ∀ n k, p.length - k = n → fnd p k < p.length → p[fnd p k]?.getD 0 = 93 := by
  intro n
  induction n with
  | zero => intro k hk h; have := fnd_out p k (by omega); omega
  | succ n ih =>
    intro k hk h
    by_cases e : p[k]?.getD 0 = 93
    · rw [fnd_hit p k (by omega) e]; exact e
    · have := fnd_miss p k (by omega) e
      rw [this]
      exact ih (k + 1) (by omega) (by omega)

/-- Cut behind its close a set closes where it did. -/
theorem fnd_take (p : List Int) : ∀ n k, p.length - k = n → fnd p k < p.length → fnd (p.take (fnd p k + 1)) k = fnd p k := by
  intro n
  induction n with
  | zero => intro k hk h; have := fnd_out p k (by omega); omega
  | succ n ih =>
    intro k hk h
    by_cases e : p[k]?.getD 0 = 93
    · have h1 := fnd_hit p k (by omega) e
      rw [h1]
      exact fnd_hit _ k (by simp; omega) (by rw [take_getD _ _ _ (by omega)]; exact e)
    · have h1 := fnd_miss p k (by omega) e
      have h2 := ih (k + 1) (by omega) (by omega)
      have hg := fnd_ge p (k + 1)
      rw [h1]
      rw [fnd_miss _ k (by simp; omega) (by rw [take_getD _ _ _ (by omega)]; exact e)]
      exact h2

theorem set_take (q : List Int) (c : Int) (h : cls q < q.length) : bang (q.take (cls q + 1)) = bang q ∧ start (q.take (cls q + 1)) = start q ∧ cls (q.take (cls q + 1)) = cls q ∧ setAcc (q.take (cls q + 1)) c = setAcc q c := by
  have h1 := cls_ge q
  have h2 := start_pos q
  have hb : bang (q.take (cls q + 1)) = bang q := by
    unfold bang
    rw [take_getD _ _ _ (by omega)]
  have hs : start (q.take (cls q + 1)) = start q := by unfold start; rw [hb]
  have hc : cls (q.take (cls q + 1)) = cls q := by
    unfold cls at h ⊢
    rw [show start (List.take (fnd q (start q + 1) + 1) q) = start q from hs]
    exact fnd_take q _ _ rfl h
  refine ⟨hb, hs, hc, ?_⟩
  unfold setAcc members
  rw [hb, hs, hc, List.take_take]
  congr 4
  omega

/-- What a token, cut out, answers by its kind. -/
def tka (tok : List Int) (kind c : Int) : Bool := if kind = 63 then true else if kind = 61 then tok[(0 : Nat)]?.getD 0 == c else if cls tok < tok.length then setAcc tok c else false

theorem tka_ta (q : List Int) (c : Int) (h : q[(0 : Nat)]?.getD 0 ≠ 42) : tka (q.take (tw q)) (kd q) c = ta q c := by
  unfold tka kd ta tw
  by_cases hs : q[(0 : Nat)]?.getD 0 = 91 ∧ cls q < q.length
  · obtain ⟨_, _, h3, h4⟩ := set_take q c hs.2
    have h63 : ¬ q[(0 : Nat)]?.getD 0 = 63 := by omega
    rw [if_pos hs, if_pos hs, if_neg h63, if_pos hs]
    rw [if_neg (by omega), if_neg (by omega), h3, h4, if_pos (by simp; omega)]
  · rw [if_neg hs, if_neg hs, if_neg h, if_neg hs]
    by_cases h63 : q[(0 : Nat)]?.getD 0 = 63
    · rw [if_pos h63, if_pos rfl, if_pos h63]
    · rw [if_neg h63, if_neg (by omega), if_pos rfl, if_neg h63, take_getD _ _ _ (by omega)]

theorem kd_star (q : List Int) : kd q = 42 ↔ q[(0 : Nat)]?.getD 0 = 42 := by
  unfold kd
  split
  · omega
  · split
    · simp [*]
    · split <;> omega

/-! ### the row of tokens -/
def tokAt (p : List Int) (i : Nat) : Option (Int → Bool) := if p[i]?.getD 0 = 42 then none else some (ta (p.drop i))

theorem T_next (p : List Int) (i : Nat) (h : i < p.length) : T (p.drop i) = tokAt p i :: T (p.drop (i + tw (p.drop i))) := by
  unfold tokAt
  by_cases e : p[i]?.getD 0 = 42
  · have hw : tw (p.drop i) = 1 := by
      unfold tw
      rw [if_neg]
      intro h
      have := h.1
      rw [List.getElem?_drop] at this
      simp [e] at this
    rw [if_pos e, hw, T_star p i h e]
  · rw [if_neg e, T_one p i h e]

/-! ### the automaton -/
abbrev Tk := Option (Int → Bool)
def upd (f : Nat → Bool) (i : Nat) : Nat → Bool := fun x => if x = i then true else f x
def stAt (ts : List Tk) (k : Nat) : Bool := match ts[k]? with | some none => true | _ => false
def acAt (ts : List Tk) (c : Int) (k : Nat) : Bool := match ts[k]? with | some (some f) => f c | _ => false
def passN (ts : List Tk) (f : Nat → Bool) : Nat → (Nat → Bool)
  | 0 => f
  | k + 1 => if passN ts f k k && stAt ts k then upd (passN ts f k) (k + 1) else passN ts f k
def stepN (ts : List Tk) (f : Nat → Bool) (c : Int) : Nat → (Nat → Bool)
  | 0 => fun _ => false
  | k + 1 => if f k then (if stAt ts k then upd (stepN ts f c k) k else if acAt ts c k then upd (stepN ts f c k) (k + 1) else stepN ts f c k) else stepN ts f c k

/-- Some live state matches what is left. -/
def Live (ts : List Tk) (f : Nat → Bool) (n : List Int) : Prop := ∃ k, k ≤ ts.length ∧ f k = true ∧ M (ts.drop k) n = true
def Shut (ts : List Tk) (f : Nat → Bool) : Prop := ∀ k, k < ts.length → f k = true → stAt ts k = true → f (k + 1) = true

theorem dropT (ts : List Tk) (k : Nat) (h : k < ts.length) : ∃ t, ts[k]? = some t ∧ ts.drop k = t :: ts.drop (k + 1) :=
  ⟨ts[k], List.getElem?_eq_getElem h, List.drop_eq_getElem_cons h⟩

theorem star_of {ts : List Tk} {k : Nat} (h : stAt ts k = true) : ts[k]? = some none := by
  unfold stAt at h
  split at h
  · assumption
  · simp at h

theorem star_drop {ts : List Tk} {k : Nat} (h : stAt ts k = true) : k < ts.length ∧ ts.drop k = none :: ts.drop (k + 1) := by
  have h1 := star_of h
  have hk : k < ts.length := by
    by_cases hk : k < ts.length
    · exact hk
    · rw [List.getElem?_eq_none (by omega)] at h1; simp at h1
  obtain ⟨t, h2, h3⟩ := dropT ts k hk
  rw [h1] at h2
  simp at h2
  subst h2
  exact ⟨hk, h3⟩

theorem acc_drop {ts : List Tk} {c : Int} {k : Nat} (h : acAt ts c k = true) : ∃ f, k < ts.length ∧ f c = true ∧ ts.drop k = some f :: ts.drop (k + 1) := by
  unfold acAt at h
  split at h
  · rename_i f h1
    have hk : k < ts.length := by
      by_cases hk : k < ts.length
      · exact hk
      · rw [List.getElem?_eq_none (by omega)] at h1; simp at h1
    obtain ⟨t, h2, h3⟩ := dropT ts k hk
    rw [h1] at h2
    simp at h2
    subst h2
    exact ⟨f, hk, h, h3⟩
  · simp at h

theorem passN_stays (ts : List Tk) (f : Nat → Bool) : ∀ j x, x ≤ j → passN ts f (j + 1) x = passN ts f j x := by
  intro j x h
  simp only [passN]
  split
  · unfold upd
    rw [if_neg (by omega)]
  · rfl

theorem passN_from (ts : List Tk) (f : Nat → Bool) (x : Nat) : ∀ d, passN ts f (x + d) x = passN ts f x x
  | 0 => rfl
  | d + 1 => by rw [← Nat.add_assoc, passN_stays _ _ _ _ (by omega)]; exact passN_from ts f x d

theorem passN_more (ts : List Tk) (f : Nat → Bool) (x : Nat) (h : f x = true) : ∀ j, passN ts f j x = true
  | 0 => h
  | j + 1 => by
    simp only [passN]
    split
    · unfold upd
      split
      · rfl
      · exact passN_more ts f x h j
    · exact passN_more ts f x h j

theorem pass_shut (ts : List Tk) (f : Nat → Bool) : Shut ts (passN ts f ts.length) := by
  intro k hk h1 h2
  have e1 : passN ts f ts.length k = passN ts f k k := by
    have := passN_from ts f k (ts.length - k)
    rw [show k + (ts.length - k) = ts.length from by omega] at this
    exact this
  have e2 : passN ts f ts.length (k + 1) = passN ts f (k + 1) (k + 1) := by
    have := passN_from ts f (k + 1) (ts.length - (k + 1))
    rw [show k + 1 + (ts.length - (k + 1)) = ts.length from by omega] at this
    exact this
  rw [e1] at h1
  rw [e2]
  simp only [passN]
  rw [h1, h2]
  simp [upd]

theorem pass_live_le (ts : List Tk) (f : Nat → Bool) (n : List Int) : ∀ j, Live ts (passN ts f j) n → Live ts f n
  | 0, h => h
  | j + 1, h => by
    apply pass_live_le ts f n j
    obtain ⟨k, hk, h1, h2⟩ := h
    simp only [passN] at h1
    split at h1
    · rename_i hc
      simp only [Bool.and_eq_true] at hc
      unfold upd at h1
      split at h1
      · rename_i e
        subst e
        obtain ⟨h3, h4⟩ := star_drop hc.2
        refine ⟨j, by omega, hc.1, ?_⟩
        rw [h4]
        simp only [M]
        rw [anySuf_iff]
        exact ⟨0, Nat.zero_le _, by simpa using h2⟩
      · exact ⟨k, hk, h1, h2⟩
    · exact ⟨k, hk, h1, h2⟩

theorem pass_live (ts : List Tk) (f : Nat → Bool) (n : List Int) : Live ts (passN ts f ts.length) n ↔ Live ts f n := by
  constructor
  · exact pass_live_le ts f n _
  · rintro ⟨k, hk, h1, h2⟩
    exact ⟨k, hk, passN_more ts f k h1 _, h2⟩

theorem stepN_star (ts : List Tk) (f : Nat → Bool) (c : Int) (k : Nat) (h1 : f k = true) (h2 : stAt ts k = true) : ∀ d, stepN ts f c (k + 1 + d) k = true
  | 0 => by simp [stepN, h1, h2, upd]
  | d + 1 => by
    have ih := stepN_star ts f c k h1 h2 d
    rw [← Nat.add_assoc]
    simp only [stepN]
    repeat' split
    all_goals first
      | exact ih
      | (unfold upd; split; rfl; exact ih)

theorem stepN_acc (ts : List Tk) (f : Nat → Bool) (c : Int) (k : Nat) (h1 : f k = true) (h2 : stAt ts k = false) (h3 : acAt ts c k = true) : ∀ d, stepN ts f c (k + 1 + d) (k + 1) = true
  | 0 => by simp [stepN, h1, h2, h3, upd]
  | d + 1 => by
    have ih := stepN_acc ts f c k h1 h2 h3 d
    rw [← Nat.add_assoc]
    simp only [stepN]
    repeat' split
    all_goals first
      | exact ih
      | (unfold upd; split; rfl; exact ih)

theorem stepN_why (ts : List Tk) (f : Nat → Bool) (c : Int) (x : Nat) : ∀ j, stepN ts f c j x = true → (f x = true ∧ stAt ts x = true) ∨ ∃ k, x = k + 1 ∧ f k = true ∧ acAt ts c k = true
  | 0, h => by simp [stepN] at h
  | j + 1, h => by
    simp only [stepN] at h
    split at h
    · rename_i hf
      split at h
      · rename_i hs
        unfold upd at h
        split at h
        · rename_i e; subst e; exact .inl ⟨hf, hs⟩
        · exact stepN_why ts f c x j h
      · split at h
        · rename_i ha
          unfold upd at h
          split at h
          · rename_i e; exact .inr ⟨j, e, hf, ha⟩
          · exact stepN_why ts f c x j h
        · exact stepN_why ts f c x j h
    · exact stepN_why ts f c x j h

theorem live_end (ts : List Tk) (f : Nat → Bool) (hs : Shut ts f) : Live ts f [] ↔ f ts.length = true := by
  constructor
  · rintro ⟨k, hk, h1, h2⟩
    have : ∀ d k, k + d = ts.length → f k = true → M (ts.drop k) [] = true → f ts.length = true := by
      intro d
      induction d with
      | zero => intro k e h _; rw [← e]; exact h
      | succ d ih =>
        intro k e h1 h2
        obtain ⟨t, h3, h4⟩ := dropT ts k (by omega)
        rw [h4] at h2
        cases t with
        | none =>
          have hst : stAt ts k = true := by unfold stAt; rw [h3]
          simp only [M, anySuf] at h2
          exact ih (k + 1) (by omega) (hs k (by omega) h1 hst) h2
        | some g => simp [M] at h2
    exact this (ts.length - k) k (by omega) h1 h2
  · intro h
    exact ⟨ts.length, Nat.le_refl _, h, by rw [List.drop_length]; rfl⟩

theorem step_live (ts : List Tk) (f : Nat → Bool) (c : Int) (n : List Int) (hs : Shut ts f) : Live ts (stepN ts f c ts.length) n ↔ Live ts f (c :: n) := by
  constructor
  · rintro ⟨x, hx, h1, h2⟩
    rcases stepN_why ts f c x _ h1 with ⟨h3, h4⟩ | ⟨k, rfl, h3, h4⟩
    · refine ⟨x, hx, h3, ?_⟩
      obtain ⟨h5, h6⟩ := star_drop h4
      rw [h6] at h2 ⊢
      simp only [M] at h2 ⊢
      simp only [anySuf, h2, Bool.or_true]
    · obtain ⟨g, h5, h6, h7⟩ := acc_drop h4
      refine ⟨k, by omega, h3, ?_⟩
      rw [h7]
      simp [M, h6, h2]
  · rintro ⟨k, hk, h1, h2⟩
    have : ∀ d k, k + d = ts.length → f k = true → M (ts.drop k) (c :: n) = true → Live ts (stepN ts f c ts.length) n := by
      intro d
      induction d with
      | zero =>
        intro k e h1 h2
        rw [List.drop_eq_nil_of_le (by omega)] at h2
        simp [M] at h2
      | succ d ih =>
        intro k e h1 h2
        obtain ⟨t, h3, h4⟩ := dropT ts k (by omega)
        rw [h4] at h2
        cases t with
        | none =>
          have hst : stAt ts k = true := by unfold stAt; rw [h3]
          simp only [M, anySuf, Bool.or_eq_true] at h2
          rcases h2 with h2 | h2
          · exact ih (k + 1) (by omega) (hs k (by omega) h1 hst) h2
          · refine ⟨k, by omega, ?_, ?_⟩
            · have := stepN_star ts f c k h1 hst (ts.length - (k + 1))
              rw [show k + 1 + (ts.length - (k + 1)) = ts.length from by omega] at this
              exact this
            · rw [h4]; simpa only [M] using h2
        | some g =>
          have hst : stAt ts k = false := by unfold stAt; rw [h3]
          simp only [M, Bool.and_eq_true] at h2
          have hac : acAt ts c k = true := by unfold acAt; rw [h3]; exact h2.1
          refine ⟨k + 1, by omega, ?_, h2.2⟩
          have := stepN_acc ts f c k h1 hst hac (ts.length - (k + 1))
          rw [show k + 1 + (ts.length - (k + 1)) = ts.length from by omega] at this
          exact this
    exact this (ts.length - k) k (by omega) h1 h2

/-! ### the invariant of the loop over the name -/
structure Aut (ts : List Tk) (n : List Int) (j : Nat) (f : Nat → Bool) : Prop where
  shut : Shut ts f
  live : M ts n = true ↔ Live ts f (n.drop j)

def first0 : Nat → Bool := fun x => if x = 0 then true else false

theorem aut_init (ts : List Tk) (n : List Int) (f : Nat → Bool) (h : ∀ x, x ≤ ts.length → f x = first0 x) : Aut ts n 0 (passN ts f ts.length) := by
  refine ⟨pass_shut _ _, ?_⟩
  rw [pass_live, List.drop_zero]
  constructor
  · intro hm
    exact ⟨0, Nat.zero_le _, by rw [h 0 (Nat.zero_le _)]; rfl, by simpa using hm⟩
  · rintro ⟨k, hk, h1, h2⟩
    rw [h k hk] at h1
    have : k = 0 := by
      unfold first0 at h1
      split at h1
      · assumption
      · simp at h1
    subst this
    simpa using h2

theorem aut_step {ts : List Tk} {n : List Int} {j : Nat} {f : Nat → Bool} (v : Aut ts n j f) (hj : j < n.length) : Aut ts n (j + 1) (passN ts (stepN ts f (n[j]?.getD 0) ts.length) ts.length) := by
  refine ⟨pass_shut _ _, ?_⟩
  rw [pass_live, step_live ts f _ _ v.shut, v.live, drop_cons n j hj]

theorem aut_end {ts : List Tk} {n : List Int} {j : Nat} {f : Nat → Bool} (v : Aut ts n j f) (hj : n.length ≤ j) : f ts.length = M ts n := by
  apply bool_eq_iff
  rw [v.live, List.drop_eq_nil_of_le hj, live_end ts f v.shut]

end Go.Proofs.Qxb6606061a
