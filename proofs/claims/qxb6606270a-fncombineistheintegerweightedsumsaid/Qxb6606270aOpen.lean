/-
  What the row's readings say of memory: slices of one-cell elements, matrices.
-/
import Derived.Test.Qxb6606270aWh
import Derived.Deep.Slices
import Derived.ChangeArms
set_option linter.unusedSimpArgs false
set_option linter.unusedVariables false
namespace Go.Proofs.Qxb6606270a
open Go.Deep

section
variable {H : Type} {enc : TypeId × Value → H} {P : Program} {w : World} {held : Bool}

theorem trod_float {t : TypeId} {k : FloatKind} {fuel : Nat} {cs : List Value} {x : DataW H × List MemPlace} (ht : P.underlying t = some (.float k)) (h : DataW.trod enc P w 0 (fun _ => true) held fuel t cs = some x) : ∃ n, cs = [.float k n] := by
  cases fuel with
  | zero => simp [DataW.trod] at h
  | succ n =>
    unfold DataW.trod at h
    rw [ht] at h
    split at h <;> simp_all

theorem cell_plain {w : World} {a : Addr} {v : Value} (h : w.cell? a = some v) : a = ⟨a.block, a.off, none⟩ ∧ a.block < w.heap.size := by
  unfold World.cell? at h
  split at h
  · rename_i hb
    split at h
    · simp at h
    · rename_i hs
      have hlt : a.block < w.heap.size := by
        by_cases hh : a.block < w.heap.size
        · exact hh
        · rw [Array.getElem?_eq_none (by omega)] at hb; simp at hb
      refine ⟨?_, hlt⟩
      cases a with
      | mk b o s =>
        cases s with
        | none => rfl
        | some s => simp at hs
  · simp at h

theorem add_at (b o i : Nat) : (⟨b, o, none⟩ : Addr).add i = ⟨b, o + i, none⟩ := by
  unfold Addr.add
  split
  · rename_i h; rw [h]; rfl
  · rfl

/-- A slice of one-cell elements, opened: each cell's value, and its own reading. -/
theorem open_row {t e : TypeId} {fuel : Nat} {v : Value} {x : DataW H × List MemPlace} (ht : P.underlying t = some (.slice e)) (ce : P.cellsOf e = 1) (h : DataW.trod enc P w 0 (fun _ => true) held fuel t [v] = some x) :
    ∃ (A : Option Addr) (L C b o n : Nat) (V : Nat → Value), v = .slice A L C ∧ L ≤ C ∧ C ≤ maxLen ∧ (0 < L → A = some ⟨b, o, none⟩) ∧ (0 < L → b < w.heap.size) ∧
      ∀ i, i < L → w.cell? ⟨b, o + i, none⟩ = some (V i) ∧ ∃ y, DataW.trod enc P w 0 (fun _ => true) held n e [V i] = some y := by
  rcases open_slice1 ht ce h with ⟨hcs, _⟩ | ⟨a, len, cap, m, n, V, D, Pl, hcs, hb, hl, hm, hmm, hx, hc⟩
  · simp at hcs
    exact ⟨none, 0, 0, 0, 0, 0, fun _ => .bool false, hcs, Nat.le_refl _, Nat.zero_le _, fun h => by omega, fun h => by omega, fun i hi => by omega⟩
  · simp at hcs
    simp only [if_true] at hmm
    by_cases h0 : 0 < len
    · have h00 := (hc 0 (by omega)).1
      have e0 : a.add 0 = a := by simp [Addr.add]
      rw [e0] at h00
      obtain ⟨ea, hlt⟩ := cell_plain h00
      refine ⟨some a, len, cap, a.block, a.off, n, V, hcs, hl, hm, fun _ => by rw [← ea], fun _ => hlt, fun i hi => ?_⟩
      have := hc i (by omega)
      rw [ea, add_at] at this
      exact ⟨this.1, _, this.2⟩
    · exact ⟨some a, len, cap, 0, 0, n, V, hcs, hl, hm, fun h => by omega, fun h => by omega, fun i hi => by omega⟩


theorem Try.cells31 : Try.prog.cellsOf 31 = 1 := by kernel_rfl
theorem Try.cells32 : Try.prog.cellsOf 32 = 1 := by kernel_rfl

theorem open_frow {fuel : Nat} {v : Value} {x : DataW H × List MemPlace} (h : DataW.trod enc Try.prog w 0 (fun _ => true) held fuel 31 [v] = some x) :
    ∃ y : Option Addr × Nat × Nat × Nat × Nat × (Nat → Nat), v = .slice y.1 y.2.1 y.2.2.1 ∧ y.2.1 ≤ 9223372036854775807 ∧ (0 < y.2.1 → y.1 = some ⟨y.2.2.2.1, y.2.2.2.2.1, none⟩) ∧ (0 < y.2.1 → y.2.2.2.1 < w.heap.size) ∧
      Fr w y.2.2.2.1 y.2.2.2.2.1 y.2.1 y.2.2.2.2.2 := by
  obtain ⟨A, L, C, b, o, n, V, hv, hl, hm, h1, h2, h3⟩ := open_row Try.underlying31 Try.cells32 h
  obtain ⟨X, hX⟩ := choose_lt (α := Nat) (n := L) (p := fun j z => V j = .float .f64 z) (fun j hj => by
    obtain ⟨_, y, hy⟩ := h3 j hj
    obtain ⟨z, hz⟩ := trod_float Try.underlying32 hy
    exact ⟨z, by simpa using hz⟩)
  unfold maxLen at hm
  exact ⟨(A, L, C, b, o, X), hv, by simp only; omega, h1, h2, fun j hj => by rw [← hX j hj]; exact (h3 j hj).1⟩

theorem open_fmat {fuel : Nat} {a : Option Addr} {n c : Nat} {x : DataW H × List MemPlace} (h : DataW.trod enc Try.prog w 0 (fun _ => true) held fuel 28 [.slice a n c] = some x) : ∃ L X, Nonempty (Mat w a n L X) := by
  obtain ⟨A, L, C, b, o, m, V, hv, hl, hm, h1, h2, h3⟩ := open_row Try.underlying28 Try.cells31 h
  simp at hv
  obtain ⟨rfl, rfl, rfl⟩ := hv
  obtain ⟨Y, hY⟩ := choose_lt (n := n) (fun i hi => open_frow (h3 i hi).2.choose_spec)
  unfold maxLen at hm
  exact ⟨fun i => (Y i).2.1, fun i => (Y i).2.2.2.2.2, ⟨{
    b := b
    o := o
    A := fun i => (Y i).1
    C := fun i => (Y i).2.2.1
    rb := fun i => (Y i).2.2.2.1
    ro := fun i => (Y i).2.2.2.2.1
    n_le := by omega
    ad := h1
    b_lt := h2
    tops := fun i hi => ⟨by rw [(h3 i hi).1, (hY i hi).1], (hY i hi).2.1⟩
    rad := fun i hi => (hY i hi).2.2.1
    rb_lt := fun i hi => (hY i hi).2.2.2.1
    row := fun i hi => (hY i hi).2.2.2.2 }⟩⟩
end

end Go.Proofs.Qxb6606270a
