import Derived.Test.Qxb6606073aTa
set_option linter.unusedSimpArgs false
set_option linter.unusedVariables false
namespace Go.Proofs.Qxb6606073a
open Go.RowKit

theorem Try.info76 : (Try.prog.info? 76).map (fun i => (i.zero, i.size, i.bytes)) = some (some (.agg #[.slice none 0 0, .slice none 0 0, .slice none 0 0]), 3, 72) := by kernel_rfl
theorem Try.info77 : (Try.prog.info? 77).map (fun i => (i.zero, i.size, i.bytes)) = some (some (.pointer none), 1, 8) := by kernel_rfl

theorem RsG_block {s : RsD} {w w' : World} {b k : Nat} (h : RsG s w b k) (hb : w'.heap[b]? = w.heap[b]?) (hz : w.heap.size ≤ w'.heap.size) : RsG s w' b k := by
  have hc : ∀ x, w'.cell? ⟨b, x, none⟩ = w.cell? ⟨b, x, none⟩ := fun x => World.cell?_of_block (w := w) (a := ⟨b, x, none⟩) hb
  have hf : ∀ x, w'.frozen? ⟨b, x, none⟩ = w.frozen? ⟨b, x, none⟩ := fun x => World.frozen?_of_block (w := w) (a := ⟨b, x, none⟩) hb
  exact ⟨Nat.lt_of_lt_of_le h.lt hz, fun i hi => by rw [hc, hf]; exact h.old i hi, fun i hi => (hc _).trans (h.c0 i hi), fun i hi => (hc _).trans (h.c1 i hi), fun i hi => (hc _).trans (h.c2 i hi),
    fun i hi => (hc _).trans (h.c3 i hi), fun i hi => (hc _).trans (h.c4 i hi), fun i hi => (hc _).trans (h.c5 i hi)⟩

/-- The rules for paths, three cells each, filled so far. -/
structure NsG (s : PsD) (w : World) (b k : Nat) : Prop where
  lt : b < w.heap.size
  old : ∀ i, i < s.n * 3 → (∃ v, w.cell? ⟨b, i, none⟩ = some v) ∧ w.frozen? ⟨b, i, none⟩ = false
  c0 : ∀ i, i < k → w.cell? ⟨b, i * 3, none⟩ = some (s.P i).v.val
  c1 : ∀ i, i < k → w.cell? ⟨b, i * 3 + 1, none⟩ = some (s.P i).u.val
  c2 : ∀ i, i < k → w.cell? ⟨b, i * 3 + 2, none⟩ = some (.slice none 0 0)
theorem NsG_block {s : PsD} {w w' : World} {b k : Nat} (h : NsG s w b k) (hb : w'.heap[b]? = w.heap[b]?) (hz : w.heap.size ≤ w'.heap.size) : NsG s w' b k := by
  have hc : ∀ x, w'.cell? ⟨b, x, none⟩ = w.cell? ⟨b, x, none⟩ := fun x => World.cell?_of_block (w := w) (a := ⟨b, x, none⟩) hb
  have hf : ∀ x, w'.frozen? ⟨b, x, none⟩ = w.frozen? ⟨b, x, none⟩ := fun x => World.frozen?_of_block (w := w) (a := ⟨b, x, none⟩) hb
  exact ⟨Nat.lt_of_lt_of_le h.lt hz, fun i hi => by rw [hc, hf]; exact h.old i hi, fun i hi => (hc _).trans (h.c0 i hi), fun i hi => (hc _).trans (h.c1 i hi), fun i hi => (hc _).trans (h.c2 i hi)⟩

def set3 (w : World) (b o : Nat) (v0 v1 v2 : Value) : World := ((w.setCell ⟨b, o, none⟩ v0).setCell ⟨b, o + 1, none⟩ v1).setCell ⟨b, o + 2, none⟩ v2

theorem NsG_put {s : PsD} {w : World} {b k : Nat} (h : NsG s w b k) (hk : k < s.n) : NsG s (set3 w b (k * 3) (s.P k).v.val (s.P k).u.val (.slice none 0 0)) b (k + 1) := by
  obtain ⟨u0, e0⟩ := (h.old (k * 3) (by omega)).1
  obtain ⟨u1, e1⟩ := (h.old (k * 3 + 1) (by omega)).1
  obtain ⟨u2, e2⟩ := (h.old (k * 3 + 2) (by omega)).1
  have ne : ∀ x y, x ≠ y → (⟨b, x, none⟩ : Addr) ≠ ⟨b, y, none⟩ := by intro x y h e; injection e with _ e; exact h e
  refine ⟨by unfold set3; simpa using h.lt, fun i hi => ?_, fun i hi => ?_, fun i hi => ?_, fun i hi => ?_⟩
  · obtain ⟨⟨u, hu⟩, hf⟩ := h.old i hi
    unfold set3
    rw [World.frozen?_setCell, World.frozen?_setCell, World.frozen?_setCell]
    obtain ⟨_, a1⟩ := cell?_setCell_some (p := ⟨b, k * 3, none⟩) (x := (s.P k).v.val) hu
    obtain ⟨_, a2⟩ := cell?_setCell_some (p := ⟨b, k * 3 + 1, none⟩) (x := (s.P k).u.val) a1
    exact ⟨cell?_setCell_some a2, hf⟩
  all_goals unfold set3
  all_goals by_cases e : i = k
  · subst e
    rw [World.cell?_setCell_other _ _ _ _ (ne _ _ (by omega)), World.cell?_setCell_other _ _ _ _ (ne _ _ (by omega))]
    exact World.cell?_setCell_same _ _ _ e0
  · rw [World.cell?_setCell_other _ _ _ _ (ne _ _ (by omega)), World.cell?_setCell_other _ _ _ _ (ne _ _ (by omega)), World.cell?_setCell_other _ _ _ _ (ne _ _ (by omega))]
    exact h.c0 i (by omega)
  · subst e
    rw [World.cell?_setCell_other _ _ _ _ (ne _ _ (by omega))]
    exact World.cell?_setCell_same _ _ _ (by rw [World.cell?_setCell_other _ _ _ _ (ne _ _ (by omega))]; exact e1)
  · rw [World.cell?_setCell_other _ _ _ _ (ne _ _ (by omega)), World.cell?_setCell_other _ _ _ _ (ne _ _ (by omega)), World.cell?_setCell_other _ _ _ _ (ne _ _ (by omega))]
    exact h.c1 i (by omega)
  · subst e
    exact World.cell?_setCell_same _ _ _ (by rw [World.cell?_setCell_other _ _ _ _ (ne _ _ (by omega)), World.cell?_setCell_other _ _ _ _ (ne _ _ (by omega))]; exact e2)
  · rw [World.cell?_setCell_other _ _ _ _ (ne _ _ (by omega)), World.cell?_setCell_other _ _ _ _ (ne _ _ (by omega)), World.cell?_setCell_other _ _ _ _ (ne _ _ (by omega))]
    exact h.c2 i (by omega)

/-- One subject in memory: block g; its rules in block rb, its rules for paths in block nb. -/
structure SubAt (e : EsD) (i : Nat) (w : World) (B g rb nb : Nat) : Prop where
  g_ge : B ≤ g
  rb_ge : B ≤ rb
  nb_ge : B ≤ nb
  g_lt : g < w.heap.size
  f5 : w.cell? ⟨g, 5, none⟩ = some (.slice (some ⟨rb, 0, none⟩) (e.rs i).n (e.rs i).n)
  f6 : w.cell? ⟨g, 6, none⟩ = some (.slice (some ⟨nb, 0, none⟩) (e.ps i).n (e.ps i).n)
  R : RsG (e.rs i) w rb (e.rs i).n
  N : NsG (e.ps i) w nb (e.ps i).n
theorem SubAt.kept {e : EsD} {i : Nat} {w w' : World} {B g rb nb : Nat} (h : SubAt e i w B g rb nb) (ha : Above B w w') : SubAt e i w' B g rb nb :=
  ⟨h.g_ge, h.rb_ge, h.nb_ge, Nat.lt_of_lt_of_le h.g_lt ha.size, (ha.cell (p := ⟨g, 5, none⟩) h.g_ge h.g_lt).trans h.f5, (ha.cell (p := ⟨g, 6, none⟩) h.g_ge h.g_lt).trans h.f6,
    RsG_block h.R (ha.block _ h.rb_ge h.R.lt) ha.size, NsG_block h.N (ha.block _ h.nb_ge h.N.lt) ha.size⟩
theorem Above.of_below {B : Nat} {w w' : World} (h : Below w.heap.size w w') : Above B w w' := ⟨h.size, fun k _ hk => h.block k hk⟩

/-- The subjects so far. -/
structure SubsG (e : EsD) (w : World) (b k : Nat) : Prop where
  lt : b < w.heap.size
  old : ∀ i, i < e.n → (∃ v, w.cell? ⟨b, i, none⟩ = some v) ∧ w.frozen? ⟨b, i, none⟩ = false
  at_ : ∀ i, i < k → ∃ g rb nb, w.cell? ⟨b, i, none⟩ = some (.pointer (some ⟨g, 0, none⟩)) ∧ SubAt e i w (b + 1) g rb nb
theorem SubsG_below {e : EsD} {w w' : World} {b k : Nat} (h : SubsG e w b k) (hb : Below w.heap.size w w') : SubsG e w' b k := by
  have hc : ∀ x, w'.cell? ⟨b, x, none⟩ = w.cell? ⟨b, x, none⟩ := fun x => hb.cell (p := ⟨b, x, none⟩) h.lt
  refine ⟨Nat.lt_of_lt_of_le h.lt hb.size, fun i hi => by rw [hc, hb.frozen (p := ⟨b, i, none⟩) h.lt]; exact h.old i hi, fun i hi => ?_⟩
  obtain ⟨g, rb, nb, h1, h2⟩ := h.at_ i hi
  exact ⟨g, rb, nb, (hc _).trans h1, h2.kept (Above.of_below hb)⟩
theorem SubsG_put {e : EsD} {w : World} {b k g rb nb : Nat} (h : SubsG e w b k) (hk : k < e.n) (hs : SubAt e k w (b + 1) g rb nb) : SubsG e (w.setCell ⟨b, k, none⟩ (.pointer (some ⟨g, 0, none⟩))) b (k + 1) := by
  have ha : Above (b + 1) w (w.setCell ⟨b, k, none⟩ (.pointer (some ⟨g, 0, none⟩))) := (Above.refl _ _).setCell (p := ⟨b, k, none⟩) (by show b < b + 1; omega) _
  refine ⟨by simpa using h.lt, fun i hi => ?_, fun i hi => ?_⟩
  · obtain ⟨⟨u, hu⟩, hf⟩ := h.old i hi
    rw [World.frozen?_setCell]
    exact ⟨cell?_setCell_some hu, hf⟩
  · by_cases e1 : i = k
    · subst e1
      obtain ⟨⟨u, hu⟩, hf⟩ := h.old i hk
      exact ⟨g, rb, nb, World.cell?_setCell_same _ _ _ hu, hs.kept ha⟩
    · obtain ⟨g', rb', nb', h1, h2⟩ := h.at_ i (by omega)
      exact ⟨g', rb', nb', by rw [World.cell?_setCell_other _ _ _ _ (by intro e2; injection e2 with _ e2; omega)]; exact h1, h2.kept ha⟩
end Go.Proofs.Qxb6606073a
