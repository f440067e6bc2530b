import Derived.Test.Qxb6606073aHa
set_option linter.unusedSimpArgs false
set_option linter.unusedVariables false
namespace Go.Proofs.Qxb6606073a
open Go.RowKit

/-- Whose block it is: the map of actions, the map of paths, the names of an action, the paths of a verb; none: nobody's. -/
abbrev Tag := Option (Bool ⊕ (AK ⊕ ByteArray))
def heldTag : Tag → Bool
  | some (.inl false) => true
  | some (.inr (.inl _)) => true
  | _ => false
def pathTag : Tag → Bool
  | some (.inl true) => true
  | some (.inr (.inr _)) => true
  | _ => false
def noTag : Tag → Bool := fun _ => false
theorem held_path {t : Tag} (h : heldTag t = true) : pathTag t = false := by
  unfold heldTag at h
  split at h <;> simp_all [pathTag]
theorem path_held {t : Tag} (h : pathTag t = true) : heldTag t = false := by
  unfold pathTag at h
  split at h <;> simp_all [heldTag]

/-- What a step may touch. -/
structure Eff (p : Tag → Bool) (B : Nat) (w w' : World) (T T' : Nat → Tag) : Prop where
  bel : Below B w w'
  blk : ∀ k, k < w.heap.size → p (T k) = false → w'.heap[k]? = w.heap[k]?
  tag : ∀ k, k < w.heap.size → T' k = T k
theorem Eff.trans {p : Tag → Bool} {B : Nat} {a b c : World} {T1 T2 T3 : Nat → Tag} (h : Eff p B a b T1 T2) (k : Eff p B b c T2 T3) : Eff p B a c T1 T3 :=
  ⟨h.bel.trans k.bel, fun i hi hp => (k.blk i (Nat.lt_of_lt_of_le hi h.bel.size) (by rw [h.tag i hi]; exact hp)).trans (h.blk i hi hp), fun i hi => (k.tag i (Nat.lt_of_lt_of_le hi h.bel.size)).trans (h.tag i hi)⟩
theorem Eff.new {p : Tag → Bool} {B : Nat} {w w' : World} {T T' : Nat → Tag} (hb : Below w.heap.size w w') (hB : B ≤ w.heap.size) (ht : ∀ k, k < w.heap.size → T' k = T k) : Eff p B w w' T T' :=
  ⟨hb.mono hB, fun k hk _ => hb.block k hk, ht⟩
theorem Eff.grown {p : Tag → Bool} {B : Nat} {w w' : World} {T : Nat → Tag} {b : Nat} (hg : w.grownBy w' (some b)) (hB : B ≤ b) (hz : B ≤ w.heap.size) (hp : p (T b) = true) : Eff p B w w' T T :=
  ⟨(Below.refl _ _).grown hg hz (by intro k e; injection e with e; omega), fun k hk hf => hg.block k hk (by intro e; injection e with e; subst e; rw [hp] at hf; cases hf), fun _ _ => rfl⟩
theorem Eff.mono {p q : Tag → Bool} {B : Nat} {w w' : World} {T T' : Nat → Tag} (h : Eff p B w w' T T') (hq : ∀ t, q t = false → p t = false) : Eff q B w w' T T' := ⟨h.bel, fun k hk hf => h.blk k hk (hq _ hf), h.tag⟩

def heldV (q : Bool) (nm : Option Nat) : Value := .agg #[.bool q, .map nm]
def putH (H : AK → Option (Bool × Option Nat)) (a : AK) (x : Bool × Option Nat) : AK → Option (Bool × Option Nat) := fun a' => if a' = a then some x else H a'
def valH (H : AK → Option (Bool × Option Nat)) : AK → Option Value := fun a => (H a).map fun x => heldV x.1 x.2
theorem putH_eq (H : AK → Option (Bool × Option Nat)) (a : AK) (x : Bool × Option Nat) : putH H a x a = some x := by unfold putH; rw [if_pos rfl]
theorem putH_ne (H : AK → Option (Bool × Option Nat)) {a a' : AK} (x : Bool × Option Nat) (h : a' ≠ a) : putH H a x a' = H a' := by unfold putH; rw [if_neg h]
theorem val_put (H : AK → Option (Bool × Option Nat)) (a : AK) (x : Bool × Option Nat) : putM (valH H) a (heldV x.1 x.2) = valH (putH H a x) := by
  funext a'
  unfold putM valH putH
  split <;> rfl

/-- What the map of actions holds. -/
structure HeldS (B : Nat) (w : World) (T : Nat → Tag) (ab : Nat) (G : AK → Option ByteArray → Prop) (H : AK → Option (Bool × Option Nat)) : Prop where
  ge : B ≤ ab
  tag : T ab = some (.inl false)
  map : MapK Try.prog 88 kfA w ab (valH H)
  all : ∀ a, G a none ↔ ∃ nm, H a = some (true, nm)
  nms : ∀ a q nb, H a = some (q, some nb) → B ≤ nb ∧ T nb = some (.inr (.inl a)) ∧ ∃ N : ByteArray → Option Value, MapK Try.prog 9 kfS w nb N ∧ (∀ s, N s = none ∨ N s = some (.bool true)) ∧ (¬ G a none → ∀ s, G a (some s) ↔ N s = some (.bool true))
  non : ∀ a s, ¬ G a none → G a (some s) → ∃ nb, H a = some (false, some nb)

section
variable {B : Nat} {w w' : World} {T T' : Nat → Tag} {ab : Nat} {G : AK → Option ByteArray → Prop} {H : AK → Option (Bool × Option Nat)}

theorem HeldS.kept (h : HeldS B w T ab G H) {p : Tag → Bool} (he : Eff p B w w' T T') (hp : ∀ t, heldTag t = true → p t = false) : HeldS B w' T' ab G H := by
  refine ⟨h.ge, (he.tag ab h.map.lt).trans h.tag, h.map.kept (he.blk ab h.map.lt (hp _ (by rw [h.tag]; rfl))), h.all, fun a q nb hH => ?_, h.non⟩
  obtain ⟨h1, h2, N, h3, h4, h5⟩ := h.nms a q nb hH
  exact ⟨h1, (he.tag nb h3.lt).trans h2, N, h3.kept (he.blk nb h3.lt (hp _ (by rw [h2]; rfl))), h4, h5⟩

/-- All is held: whatever comes in addition changes nothing. -/
theorem HeldS.weak (h : HeldS B w T ab G H) {a : AK} (ha : G a none) (Q : Option ByteArray → Prop) : HeldS B w T ab (fun a' x => G a' x ∨ (a' = a ∧ Q x)) H := by
  have e1 : ∀ a', (G a' none ∨ (a' = a ∧ Q none)) ↔ G a' none := fun a' => ⟨fun h => by rcases h with h | ⟨rfl, _⟩ <;> assumption, .inl⟩
  have e2 : ∀ a' s, ¬ G a' none → ((G a' (some s) ∨ (a' = a ∧ Q (some s))) ↔ G a' (some s)) := fun a' s hn => ⟨fun h => by rcases h with h | ⟨rfl, _⟩; exact h; exact absurd ha hn, .inl⟩
  refine ⟨h.ge, h.tag, h.map, fun a' => (e1 a').trans (h.all a'), fun a' q nb hH => ?_, fun a' s hn hs => ?_⟩
  · obtain ⟨h1, h2, N, h3, h4, h5⟩ := h.nms a' q nb hH
    refine ⟨h1, h2, N, h3, h4, fun hn s => ?_⟩
    rw [e1] at hn
    exact (e2 a' s hn).trans (h5 hn s)
  · rw [e1] at hn
    exact h.non a' s hn ((e2 a' s hn).1 hs)

/-- All is set. -/
theorem HeldS.setAll (h : HeldS B w T ab G H) {a : AK} (hm : MapK Try.prog 88 kfA w' ab (putM (valH H) a (heldV true none))) (hg : w.grownBy w' (some ab)) {Q : Option ByteArray → Prop} (hQ : Q none) :
    HeldS B w' T ab (fun a' x => G a' x ∨ (a' = a ∧ Q x)) (putH H a (true, none)) := by
  refine ⟨h.ge, h.tag, by rw [val_put H a (true, none)] at hm; exact hm, fun a' => ?_, fun a' q nb hH => ?_, fun a' s hn hs => ?_⟩
  · by_cases e : a' = a
    · subst e
      rw [putH_eq]
      exact ⟨fun _ => ⟨none, rfl⟩, fun _ => .inr ⟨rfl, hQ⟩⟩
    · rw [putH_ne _ _ e, ← h.all a']
      exact ⟨fun h => by rcases h with h | ⟨h1, _⟩; exact h; exact absurd h1 e, .inl⟩
  · by_cases e : a' = a
    · subst e
      rw [putH_eq] at hH
      cases hH
    · rw [putH_ne _ _ e] at hH
      obtain ⟨h1, h2, N, h3, h4, h5⟩ := h.nms a' q nb hH
      have hne : nb ≠ ab := by intro e; rw [e, h.tag] at h2; cases h2
      refine ⟨h1, h2, N, h3.kept (hg.block nb h3.lt (by intro e; injection e with e; exact hne e)), h4, fun hn s => ?_⟩
      have hn' : ¬ G a' none := fun h => hn (.inl h)
      exact ⟨fun hs => (h5 hn' s).1 (by rcases hs with hs | ⟨h1, _⟩; exact hs; exact absurd h1 e), fun hs => .inl ((h5 hn' s).2 hs)⟩
  · by_cases e : a' = a
    · exact absurd (.inr ⟨e, hQ⟩) hn
    · rw [putH_ne _ _ e]
      exact h.non a' s (fun h => hn (.inl h)) (by rcases hs with hs | ⟨h1, _⟩; exact hs; exact absurd h1 e)

/-- A new map of names. -/
theorem HeldS.setNew (h : HeldS B w T ab G H) {a : AK} {nb : Nat} (hm : MapK Try.prog 88 kfA w' ab (putM (valH H) a (heldV false (some nb)))) (hg : w.grownBy w' (some ab)) (ha : ¬ G a none) (hnm : ∀ q b, H a ≠ some (q, some b))
    (hnb : B ≤ nb) (hT : T nb = some (.inr (.inl a))) (hN : MapK Try.prog 9 kfS w nb (fun _ => none)) : HeldS B w' T ab G (putH H a (false, some nb)) := by
  have hns : ∀ s, ¬ G a (some s) := fun s hs => by obtain ⟨b, hb⟩ := h.non a s ha hs; exact hnm _ _ hb
  refine ⟨h.ge, h.tag, by rw [val_put H a (false, some nb)] at hm; exact hm, fun a' => ?_, fun a' q b hH => ?_, fun a' s hn hs => ?_⟩
  · by_cases e : a' = a
    · subst e
      rw [putH_eq]
      exact ⟨fun h => absurd h ha, fun ⟨nm, h⟩ => by cases h⟩
    · rw [putH_ne _ _ e]
      exact h.all a'
  · by_cases e : a' = a
    · subst e
      rw [putH_eq] at hH
      cases hH
      have hne : nb ≠ ab := by intro e; rw [e, h.tag] at hT; cases hT
      exact ⟨hnb, hT, _, hN.kept (hg.block nb hN.lt (by intro e; injection e with e; exact hne e)), fun s => .inl rfl, fun _ s => ⟨fun hs => absurd hs (hns s), fun h => by cases h⟩⟩
    · rw [putH_ne _ _ e] at hH
      obtain ⟨h1, h2, N, h3, h4, h5⟩ := h.nms a' q b hH
      have hne : b ≠ ab := by intro e; rw [e, h.tag] at h2; cases h2
      exact ⟨h1, h2, N, h3.kept (hg.block b h3.lt (by intro e; injection e with e; exact hne e)), h4, h5⟩
  · by_cases e : a' = a
    · subst e
      exact ⟨nb, putH_eq _ _ _⟩
    · rw [putH_ne _ _ e]
      exact h.non a' s hn hs

/-- One name more. -/
theorem HeldS.setName (h : HeldS B w T ab G H) {a : AK} {nb : Nat} (ha : ¬ G a none) (hH : H a = some (false, some nb)) {N : ByteArray → Option Value} (hN : ∀ s, N s = none ∨ N s = some (.bool true)) (hG : ∀ s, G a (some s) ↔ N s = some (.bool true))
    {y : ByteArray} (hm : MapK Try.prog 9 kfS w' nb (putM N y (.bool true))) (hg : w.grownBy w' (some nb)) {Q : Option ByteArray → Prop} (hQ : ∀ x, Q x ↔ x = some y) :
    HeldS B w' T ab (fun a' x => G a' x ∨ (a' = a ∧ Q x)) H := by
  have hq : ¬ Q none := fun h => by have := (hQ none).1 h; cases this
  have e1 : ∀ a', (G a' none ∨ (a' = a ∧ Q none)) ↔ G a' none := fun a' => ⟨fun h => by rcases h with h | ⟨_, h⟩; exact h; exact absurd h hq, .inl⟩
  obtain ⟨t1, t2, _⟩ := h.nms a false nb hH
  have hne : ab ≠ nb := by intro e; rw [← e, h.tag] at t2; cases t2
  refine ⟨h.ge, h.tag, h.map.kept (hg.block ab h.map.lt (by intro e; injection e with e; exact hne e)), fun a' => (e1 a').trans (h.all a'), fun a' q b hH' => ?_, fun a' s hn hs => ?_⟩
  · by_cases e : a' = a
    · subst e
      rw [hH] at hH'
      cases hH'
      refine ⟨t1, t2, _, hm, fun s => ?_, fun _ s => ?_⟩
      · unfold putM
        split
        · exact .inr rfl
        · exact hN s
      · unfold putM
        by_cases es : s = y
        · subst es
          rw [if_pos rfl]
          exact ⟨fun _ => rfl, fun _ => .inr ⟨rfl, (hQ _).2 rfl⟩⟩
        · rw [if_neg es, ← hG s]
          exact ⟨fun hs => by rcases hs with hs | ⟨_, hs⟩; exact hs; have := (hQ _).1 hs; injection this with this; exact absurd this es, .inl⟩
    · obtain ⟨h1, h2, N', h3, h4, h5⟩ := h.nms a' q b hH'
      have hne' : b ≠ nb := by intro e'; rw [e', t2] at h2; injection h2 with h2; injection h2 with h2; injection h2 with h2; exact e h2.symm
      refine ⟨h1, h2, N', h3.kept (hg.block b h3.lt (by intro e; injection e with e; exact hne' e)), h4, fun hn s => ?_⟩
      rw [e1] at hn
      exact ⟨fun hs => (h5 hn s).1 (by rcases hs with hs | ⟨h1, _⟩; exact hs; exact absurd h1 e), fun hs => .inl ((h5 hn s).2 hs)⟩
  · rw [e1] at hn
    rcases hs with hs | ⟨e, _⟩
    · exact h.non a' s hn hs
    · exact ⟨nb, by rw [e]; exact hH⟩
theorem HeldS.congr {G' : AK → Option ByteArray → Prop} (h : HeldS B w T ab G H) (e : ∀ a x, G a x ↔ G' a x) : HeldS B w T ab G' H := by
  have : G = G' := by funext a x; exact propext (e a x)
  rw [← this]; exact h
end

/-- What comes in addition. -/
def AddX (s : SD) (k : Nat) : Option ByteArray → Prop
  | none => s.n = 0
  | some y => ∃ i, i < k ∧ s.S i = y
def addG (G : AK → Option ByteArray → Prop) (a : AK) (s : SD) (k : Nat) : AK → Option ByteArray → Prop := fun a' x => G a' x ∨ (a' = a ∧ AddX s k x)
end Go.Proofs.Qxb6606073a
