/-
  A region that draws its order: a relation on what has come up so far, kept by every operation, whichever comes next. No program in this text.
-/
import Derived.BigRegion
import Derived.WalkKit
set_option linter.unusedSimpArgs false
set_option linter.unusedVariables false
namespace Go.Proofs.Qxb6606073a
open Go

def cf : List Bool → Nat
  | [] => 0
  | b :: r => (if b then 0 else 1) + cf r

theorem cf_set : ∀ (l : List Bool) (i : Nat), l[i]? = some false → cf (l.set i true) + 1 = cf l
  | [], i, h => by simp at h
  | b :: r, 0, h => by
    simp at h
    subst h
    simp [cf]
    omega
  | b :: r, i + 1, h => by
    have := cf_set r i (by simpa using h)
    simp [cf]
    omega
theorem cf_zero : ∀ (l : List Bool), cf l = 0 → ∀ i : Nat, i < l.length → l[i]? = some true
  | [], _, i, h => by simp at h
  | b :: r, h0, 0, h => by
    cases b
    · simp [cf] at h0
    · rfl
  | b :: r, h0, i + 1, h => by
    have h1 : cf r = 0 := by unfold cf at h0; omega
    have := cf_zero r h1 i (by simpa using h)
    simpa using this
theorem cf_rep : ∀ n, cf (List.replicate n false) = n
  | 0 => rfl
  | n + 1 => by
    simp [List.replicate_succ, cf, cf_rep n]
    omega

section
variable {P : Program} {md : Region.Mode} {ops : Array Oper} {Q : Exit → Act → World → Prop}

theorem wpAny_inv (I : (Nat → Bool) → Act → World → Prop)
    (step : ∀ D a w i o, I D a w → ops[i]? = some o → D i = false → (∀ e ∈ o.after, Region.binds md e = true → D e.on = true) → wpOp P ops Q i (fun a' w' => I (fun j => j == i || D j) a' w') a w)
    (fin : ∀ D a w, I D a w → (∀ i, i < ops.size → D i = true) → Q .normal a w)
    (acyc : ∀ i o, ops[i]? = some o → ∀ e ∈ o.after, Region.binds md e = true → e.on < i) (a : Act) (w : World) (h0 : I (fun _ => false) a w) :
    wpAny P md ops Q ops.size (Array.replicate ops.size false) a w := by
  have all : ∀ listed : Array Bool, listed.size = ops.size → Region.ready md ops listed = [] → ∀ i, i < ops.size → listed.getD i false = true := by
    intro listed hs hr i
    induction i using Nat.strongRecOn with
    | _ i ih =>
      intro hi
      by_cases hl : listed.getD i false = true
      · exact hl
      · exfalso
        have hm : i ∈ Region.ready md ops listed := by
          rw [mem_ready]
          refine ⟨?_, ops[i], by simp [hi], fun e he hb => ?_⟩
          · simp only [Array.getD_eq_getD_getElem?] at hl ⊢
            rw [Array.getElem?_eq_getElem (by omega)] at hl ⊢
            simpa using hl
          · have hlt := acyc i ops[i] (by simp [hi]) e he hb
            exact ih e.on hlt (by omega)
        rw [hr] at hm
        cases hm
  have key : ∀ fuel (listed : Array Bool) a w, listed.size = ops.size → I (fun j => listed.getD j false) a w → cf listed.toList = fuel → wpAny P md ops Q fuel listed a w := by
    intro fuel
    induction fuel with
    | zero =>
      intro listed a w hs hI hc
      have hall : ∀ i, i < ops.size → listed.getD i false = true := fun i hi => by
        have := cf_zero _ hc i (by simpa [hs] using hi)
        simp only [Array.getD_eq_getD_getElem?]
        rw [← Array.getElem?_toList, this]
        rfl
      refine ⟨?_, fin _ a w hI hall⟩
      rw [List.eq_nil_iff_forall_not_mem]
      intro i hi
      rw [mem_ready] at hi
      obtain ⟨h1, o, ho, _⟩ := hi
      have hlt : i < ops.size := (Array.getElem?_eq_some_iff.1 ho).1
      have := hall i hlt
      simp only [Array.getD_eq_getD_getElem?] at h1 this
      rw [Array.getElem?_eq_getElem (by omega)] at h1 this
      simp at h1 this
      rw [h1] at this
      cases this
    | succ fuel ih =>
      intro listed a w hs hI hc
      refine ⟨fun hr => fin _ a w hI (all listed hs hr), fun i hi => ?_⟩
      obtain ⟨h1, o, ho, hall⟩ := mem_ready.1 hi
      have hlt : i < ops.size := (Array.getElem?_eq_some_iff.1 ho).1
      have hli : listed[i]? = some false := by
        simp only [Array.getD_eq_getD_getElem?] at h1
        rw [Array.getElem?_eq_getElem (by omega)] at h1 ⊢
        simpa using h1
      refine wpOp_mono ?_ (step _ a w i o hI ho (by simp only [Array.getD_eq_getD_getElem?, hli]; rfl) hall)
      intro a' w' hI'
      refine ih _ a' w' (by simpa using hs) ?_ ?_
      · have e : (fun j => (listed.setIfInBounds i true).getD j false) = (fun j => j == i || listed.getD j false) := by
          funext j
          by_cases hj : j = i
          · subst hj
            simp [hs, hlt]
          · rw [getD_set_ne false (fun e => hj e.symm)]
            simp [hj]
        rw [e]
        exact hI'
      · have := cf_set listed.toList i (by simpa using hli)
        simp only [Array.toList_setIfInBounds]
        omega
  refine key ops.size _ a w (by simp) ?_ (by simp [cf_rep])
  have e : (fun j => (Array.replicate ops.size false).getD j false) = (fun _ => false) := by
    funext j
    simp only [Array.getD_eq_getD_getElem?, Array.getElem?_replicate]
    split <;> rfl
  rw [e]
  exact h0

/-- A region that draws, by a relation. -/
theorem wp_region_inv {id : Nat} {a : Act} {w : World} (hm : P.follows .mixedOrders = true) (I : (Nat → Bool) → Act → World → Prop)
    (step : ∀ D a w i o, I D a w → ops[i]? = some o → D i = false → (∀ e ∈ o.after, Region.binds .any e = true → D e.on = true) → wpOp P ops Q i (fun a' w' => I (fun j => j == i || D j) a' w') a w)
    (fin : ∀ D a w, I D a w → (∀ i, i < ops.size → D i = true) → Q .normal a w)
    (acyc : ∀ i o, ops[i]? = some o → ∀ e ∈ o.after, Region.binds .any e = true → e.on < i) (h0 : I (fun _ => false) a w.drew) : (Code.region id ops true).wp P Q a w :=
  wp_region_any hm (wpAny_inv I step fin acyc a _ h0)
end
end Go.Proofs.Qxb6606073a
