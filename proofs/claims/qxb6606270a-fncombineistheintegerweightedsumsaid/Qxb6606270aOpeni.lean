/-
  What the row's readings say of memory: rows, matrices and cubes of 16-bit integers.
-/
import Derived.Test.Qxb6606270aOpen
import Derived.Test.Qxb6606270aWn
set_option linter.unusedSimpArgs false
set_option linter.unusedVariables false
namespace Go.Proofs.Qxb6606270a
open Go.Deep

section
variable {H : Type} {enc : TypeId × Value → H} {w : World} {held : Bool}

theorem Try.cells33 : Try.prog.cellsOf 33 = 1 := by kernel_rfl
theorem Try.cells23 : Try.prog.cellsOf 23 = 1 := by kernel_rfl
theorem Try.cells30 : Try.prog.cellsOf 30 = 1 := by kernel_rfl

theorem wf16 {n : Int} (h : (Lit.int .i16 n).wf = true) : -32768 ≤ n ∧ n ≤ 32767 := by
  simp [Lit.wf] at h
  have e1 : IntKind.i16.min = -32768 := by decide
  have e2 : IntKind.i16.max = 32767 := by decide
  omega

theorem open_irow {fuel : Nat} {v : Value} {x : DataW H × List MemPlace} (h : DataW.trod enc Try.prog w 0 (fun _ => true) held fuel 23 [v] = some x) :
    ∃ y : Option Addr × Nat × Nat × Nat × Nat × (Nat → Int), v = .slice y.1 y.2.1 y.2.2.1 ∧ y.2.1 ≤ 9223372036854775807 ∧ (0 < y.2.1 → y.1 = some ⟨y.2.2.2.1, y.2.2.2.2.1, none⟩) ∧ (0 < y.2.1 → y.2.2.2.1 < w.heap.size) ∧
      Ir w y.2.2.2.1 y.2.2.2.2.1 y.2.1 y.2.2.2.2.2 := by
  obtain ⟨A, L, C, b, o, n, V, hv, hl, hm, h1, h2, h3⟩ := open_row Try.underlying23 Try.cells33 h
  obtain ⟨X, hX⟩ := choose_lt (α := Int) (n := L) (p := fun j z => V j = .int .i16 z ∧ -32768 ≤ z ∧ z ≤ 32767) (fun j hj => by
    obtain ⟨_, y, hy⟩ := h3 j hj
    obtain ⟨z, hz, _, hwf⟩ := DataW.trod_int Try.underlying33 hy
    exact ⟨z, by simpa using hz, wf16 hwf⟩)
  unfold maxLen at hm
  exact ⟨(A, L, C, b, o, X), hv, by simp only; omega, h1, h2, fun j hj => ⟨by rw [← (hX j hj).1]; exact (h3 j hj).1, (hX j hj).2⟩⟩

theorem open_imat {fuel : Nat} {v : Value} {x : DataW H × List MemPlace} (h : DataW.trod enc Try.prog w 0 (fun _ => true) held fuel 30 [v] = some x) :
    ∃ y : Option Addr × Nat × Nat × (Nat → Nat) × (Nat → Nat → Int), v = .slice y.1 y.2.1 y.2.2.1 ∧ y.2.1 ≤ 9223372036854775807 ∧ Nonempty (IMat w y.1 y.2.1 y.2.2.2.1 y.2.2.2.2) := by
  obtain ⟨A, L, C, b, o, m, V, hv, hl, hm, h1, h2, h3⟩ := open_row Try.underlying30 Try.cells23 h
  obtain ⟨Y, hY⟩ := choose_lt (n := L) (fun i hi => open_irow (h3 i hi).2.choose_spec)
  unfold maxLen at hm
  exact ⟨(A, L, C, fun i => (Y i).2.1, fun i => (Y i).2.2.2.2.2), hv, by simp only; omega, ⟨{
    b := b
    o := o
    A := fun i => (Y i).1
    C := fun i => (Y i).2.2.1
    rb := fun i => (Y i).2.2.2.1
    ro := fun i => (Y i).2.2.2.2.1
    n_le := by simp only; omega
    ad := h1
    b_lt := h2
    tops := fun i hi => ⟨by rw [(h3 i hi).1, (hY i hi).1], (hY i hi).2.1⟩
    rad := fun i hi => (hY i hi).2.2.1
    rb_lt := fun i hi => (hY i hi).2.2.2.1
    row := fun i hi => (hY i hi).2.2.2.2 }⟩⟩

theorem open_icube {fuel : Nat} {a : Option Addr} {n c : Nat} {x : DataW H × List MemPlace} (h : DataW.trod enc Try.prog w 0 (fun _ => true) held fuel 22 [.slice a n c] = some x) : ∃ N L X, Nonempty (ICube w a n N L X) := by
  obtain ⟨A, L, C, b, o, m, V, hv, hl, hm, h1, h2, h3⟩ := open_row Try.underlying22 Try.cells30 h
  simp at hv
  obtain ⟨rfl, rfl, rfl⟩ := hv
  obtain ⟨Y, hY⟩ := choose_lt (n := n) (fun i hi => open_imat (h3 i hi).2.choose_spec)
  unfold maxLen at hm
  exact ⟨fun i => (Y i).2.1, fun i => (Y i).2.2.2.1, fun i => (Y i).2.2.2.2, ⟨{
    b := b
    o := o
    A := fun i => (Y i).1
    C := fun i => (Y i).2.2.1
    n_le := by omega
    ad := h1
    b_lt := h2
    tops := fun i hi => ⟨by rw [(h3 i hi).1, (hY i hi).1], (hY i hi).2.1⟩
    mat := fun i hi => (hY i hi).2.2 }⟩⟩
end
end Go.Proofs.Qxb6606270a
