import Derived.Test.Qxb6606270aWl
set_option linter.unusedSimpArgs false
set_option linter.unusedVariables false
namespace Go.Proofs.Qxb6606270a
open Go.RowKit

theorem OutM_mono {w : World} {B B' ob : Nat} {rb : Nat → Nat} {r c : Nat} {Z : Nat → Nat → Nat} (h : OutM w B ob rb r c Z) (hB : B' ≤ B) : OutM w B' ob rb r c Z :=
  ⟨Nat.le_trans hB h.ob_ge, h.ob_lt, fun i hi => ⟨Nat.le_trans hB (h.rb_ge i hi).1, (h.rb_ge i hi).2⟩, h.rb_ne, h.rb_inj, h.top, h.cel⟩

theorem OutM_low {w : World} {B ob : Nat} {rb : Nat → Nat} {r c : Nat} {Z : Nat → Nat → Nat} (h : OutM w B ob rb r c Z) {b j : Nat} (hb : b < B) (v : Value) : OutM (w.setCell ⟨b, j, none⟩ v) B ob rb r c Z := by
  have hoth : ∀ x : Addr, B ≤ x.block → (w.setCell ⟨b, j, none⟩ v).cell? x = w.cell? x := fun x hx => World.cell?_setCell_other _ _ _ _ (by intro e; rw [← e] at hx; simp at hx; omega)
  refine ⟨h.ob_ge, by simpa using h.ob_lt, fun k hk => ⟨(h.rb_ge k hk).1, by simpa using (h.rb_ge k hk).2⟩, h.rb_ne, h.rb_inj, fun k hk => ?_, fun k l hk hl => ?_⟩
  · rw [hoth _ h.ob_ge]; exact h.top k hk
  · rw [World.frozen?_setCell, hoth _ (h.rb_ge k hk).1]; exact h.cel k l hk hl

/-- The networks turned so far. -/
structure Fil (w : World) (B b K r q : Nat) (F : Nat → Nat → Nat → Nat) (ob : Nat → Nat) (rb : Nat → Nat → Nat) (k : Nat) : Prop where
  lt : b < w.heap.size
  old : ∀ i, i < K → (∃ v, w.cell? ⟨b, i, none⟩ = some v) ∧ w.frozen? ⟨b, i, none⟩ = false
  set : ∀ i, i < k → w.cell? ⟨b, i, none⟩ = some (.slice (some ⟨ob i, 0, none⟩) r r)
  om : ∀ i, i < k → OutM w B (ob i) (rb i) r q (F i)

section
variable {w w' : World} {B b K r q k : Nat} {F : Nat → Nat → Nat → Nat} {ob : Nat → Nat} {rb : Nat → Nat → Nat}

theorem Fil_below (h : Fil w B b K r q F ob rb k) (hb : Below w.heap.size w w') (hk : k ≤ K) : Fil w' B b K r q F ob rb k :=
  ⟨Nat.lt_of_lt_of_le h.lt hb.size, fun i hi => by
    rw [hb.cell (p := ⟨b, i, none⟩) h.lt, hb.frozen (p := ⟨b, i, none⟩) h.lt]; exact h.old i hi,
    fun i hi => (hb.cell (p := ⟨b, i, none⟩) h.lt).trans (h.set i hi), fun i hi => OutM_below (h.om i hi) hb⟩

theorem Fil_low (h : Fil w B b K r q F ob rb k) {b' j : Nat} (hB : b' < B) (hne : b' ≠ b) (v : Value) : Fil (w.setCell ⟨b', j, none⟩ v) B b K r q F ob rb k := by
  have hoth : ∀ i, (w.setCell ⟨b', j, none⟩ v).cell? ⟨b, i, none⟩ = w.cell? ⟨b, i, none⟩ := fun i => World.cell?_setCell_other _ _ _ _ (by intro e; injection e with e1; exact hne e1)
  refine ⟨by simpa using h.lt, fun i hi => ?_, fun i hi => ?_, fun i hi => OutM_low (h.om i hi) hB v⟩
  · rw [hoth, World.frozen?_setCell]; exact h.old i hi
  · rw [hoth]; exact h.set i hi

def putF (rb : Nat → Nat → Nat) (k : Nat) (g : Nat → Nat) : Nat → Nat → Nat := fun i => if i = k then g else rb i

theorem Fil_put (h : Fil w B b K r q F ob rb k) (hk : k < K) (hB : b < B) {g : Nat} {rg : Nat → Nat} (hO : OutM w B g rg r q (F k)) :
    Fil (w.setCell ⟨b, k, none⟩ (.slice (some ⟨g, 0, none⟩) r r)) B b K r q F (putN ob k g) (putF rb k rg) (k + 1) := by
  refine ⟨by simpa using h.lt, fun i hi => ?_, fun i hi => ?_, fun i hi => ?_⟩
  · rw [World.frozen?_setCell]
    obtain ⟨⟨v, hv⟩, hf⟩ := h.old i hi
    exact ⟨cell?_setCell_some hv, hf⟩
  · unfold putN
    by_cases e : i = k
    · subst e
      rw [if_pos rfl]
      obtain ⟨⟨v, hv⟩, hf⟩ := h.old i hk
      exact World.cell?_setCell_same _ _ _ hv
    · rw [if_neg e, World.cell?_setCell_other _ _ _ _ (by simp <;> omega)]
      exact h.set i (by omega)
  · unfold putN putF
    by_cases e : i = k
    · subst e
      rw [if_pos rfl, if_pos rfl]
      exact OutM_low hO hB _
    · rw [if_neg e, if_neg e]
      exact OutM_low (h.om i (by omega)) hB _
end

theorem IMat_net {w wx : World} {b o K r q : Nat} {A : Nat → Option Addr} {N C : Nat → Nat} {L : Nat → Nat → Nat} {X : Nat → Nat → Nat → Int} (hm : ∀ k, k < K → Nonempty (IMat w (A k) (N k) (L k) (X k)))
    (hN : ∀ k, k < K → N k = r ∧ ∀ i, i < r → L k i = q) (hB : Below w.heap.size w wx) {k : Nat} (hk : k < K) : Nonempty (IMat wx (A k) r (fun _ => q) (X k)) := by
  obtain ⟨m⟩ := hm k hk
  obtain ⟨e1, e2⟩ := hN k hk
  obtain ⟨mb, mo, mA, mC, mrb, mro, mn, mad, mbl, mt, mrad, mrl, mrow⟩ := m.below hB
  exact ⟨{ b := mb
           o := mo
           A := mA
           C := mC
           rb := mrb
           ro := mro
           n_le := by omega
           ad := fun h => mad (by omega)
           b_lt := fun h => mbl (by omega)
           tops := fun i hi => by have := mt i (by omega); rw [e2 i hi] at this; exact this
           rad := fun i hi h => mrad i (by omega) (by rw [e2 i hi]; exact h)
           rb_lt := fun i hi h => mrl i (by omega) (by rw [e2 i hi]; exact h)
           row := fun i hi j hj => mrow i (by omega) j (by rw [e2 i hi]; exact hj) }⟩

theorem Try.info28 : (Try.prog.info? 28).map (fun i => (i.zero, i.size, i.bytes)) = some (some (.slice none 0 0), 1, 24) := by kernel_rfl

/-- The weights turned so far. -/
structure Wts (w : World) (b n : Nat) (wt : Nat → Int) (k : Nat) : Prop where
  lt : b < w.heap.size
  old : ∀ i, i < n → (∃ v, w.cell? ⟨b, i, none⟩ = some v) ∧ w.frozen? ⟨b, i, none⟩ = false
  set : ∀ i, i < k → w.cell? ⟨b, i, none⟩ = some (.float .f64 (fl (wt i)))

theorem Wts_put {w : World} {b n k : Nat} {wt : Nat → Int} (h : Wts w b n wt k) (hk : k < n) : Wts (w.setCell ⟨b, k, none⟩ (.float .f64 (floatOfInt .f64 (wt k)))) b n wt (k + 1) := by
  refine ⟨by simpa using h.lt, fun i hi => ?_, fun i hi => ?_⟩
  · rw [World.frozen?_setCell]
    obtain ⟨⟨v, hv⟩, hf⟩ := h.old i hi
    exact ⟨cell?_setCell_some hv, hf⟩
  · by_cases e : i = k
    · subst e
      obtain ⟨⟨v, hv⟩, hf⟩ := h.old i hk
      exact World.cell?_setCell_same _ _ _ hv
    · rw [World.cell?_setCell_other _ _ _ _ (by simp <;> omega)]
      exact h.set i (by omega)
end Go.Proofs.Qxb6606270a
