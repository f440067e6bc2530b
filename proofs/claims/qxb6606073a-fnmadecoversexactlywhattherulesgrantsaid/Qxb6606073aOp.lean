import Derived.Test.Qxb6606073aDa
import Derived.Deep.Slices
import Derived.ChangeArms
set_option linter.unusedSimpArgs false
set_option linter.unusedVariables false
namespace Go.Proofs.Qxb6606073a
open Go.Deep

section
variable {H : Type} {enc : TypeId × Value → H} {P : Program} {w : World} {held : Bool}

theorem cell_plain {w : World} {a : Addr} {v : Value} (h : w.cell? a = some v) : a = ⟨a.block, a.off, none⟩ ∧ a.block < w.heap.size := by
  unfold World.cell? at h
  split at h
  · rename_i hb
    split at h
    · simp at h
    · rename_i hs
      have hlt : a.block < w.heap.size := by
        by_cases hh : a.block < w.heap.size
        · exact hh
        · rw [Array.getElem?_eq_none (by omega)] at hb; simp at hb
      refine ⟨?_, hlt⟩
      cases a with
      | mk b o s =>
        cases s with
        | none => rfl
        | some s => simp at hs
  · simp at h

theorem add_at (b o i : Nat) : (⟨b, o, none⟩ : Addr).add i = ⟨b, o + i, none⟩ := by
  unfold Addr.add
  split
  · rename_i h; rw [h]; rfl
  · rfl

/-- A slice of elements of k cells, opened. -/
theorem open_many {t e k : Nat} {fuel : Nat} {v : Value} {x : DataW H × List MemPlace} (ht : P.underlying t = some (.slice e)) (ce : P.cellsOf e = k) (hk : 0 < k) (h : DataW.trod enc P w 0 (fun _ => true) held fuel t [v] = some x) :
    ∃ (A : Option Addr) (L C b o n : Nat), v = .slice A L C ∧ L ≤ maxLen ∧ (0 < L → A = some ⟨b, o, none⟩) ∧ (0 < L → b < w.heap.size) ∧
      ∀ i, i < L → ∃ cs : List Value, cs.length = k ∧ (∀ j, j < k → w.cell? ⟨b, o + i * k + j, none⟩ = cs[j]?) ∧ ∃ y, DataW.trod enc P w 0 (fun _ => true) held n e cs = some y := by
  rcases open_slice ht h with ⟨hcs, _⟩ | ⟨a, len, cap, m, n, D, Pl, hcs, hb, hl, hm, hmm, hx, hc⟩
  · simp at hcs
    exact ⟨none, 0, 0, 0, 0, 0, hcs, Nat.zero_le _, fun h => by omega, fun h => by omega, fun i hi => by omega⟩
  · simp at hcs
    simp only [if_true] at hmm
    rw [ce] at hc
    by_cases h0 : 0 < len
    · obtain ⟨cs0, g1, _⟩ := hc 0 (by omega)
      obtain ⟨_, hl0, hc0⟩ := World.cells?_some g1
      have h00 := hc0 0 hk
      rw [add_add, Nat.zero_mul] at h00
      have e0 : a.add (0 + 0) = a := by simp [Addr.add]
      rw [e0, List.getElem?_eq_getElem (by omega)] at h00
      obtain ⟨ea, hlt⟩ := cell_plain h00
      refine ⟨some a, len, cap, a.block, a.off, n, hcs, by omega, fun _ => by rw [← ea], fun _ => hlt, fun i hi => ?_⟩
      obtain ⟨cs, g1, g2⟩ := hc i (by omega)
      obtain ⟨_, hl1, hc1⟩ := World.cells?_some g1
      refine ⟨cs, hl1, fun j hj => ?_, _, g2⟩
      have := hc1 j hj
      rw [add_add, ea, add_at, ← Nat.add_assoc] at this
      exact this
    · exact ⟨some a, len, cap, 0, 0, n, hcs, by omega, fun h => by omega, fun h => by omega, fun i hi => by omega⟩
end

section
variable {H : Type} {enc : TypeId × Value → H} {w : World} {held : Bool}
theorem list6 {α : Type} {cs : List α} (h : cs.length = 6) : ∃ a b c d e f, cs = [a, b, c, d, e, f] := by
  match cs, h with
  | [a, b, c, d, e, f], _ => exact ⟨a, b, c, d, e, f, rfl⟩
theorem list2 {α : Type} {cs : List α} (h : cs.length = 2) : ∃ a b, cs = [a, b] := by
  match cs, h with
  | [a, b], _ => exact ⟨a, b, rfl⟩
theorem oc9 : Try.prog.cellsOf 9 = 1 := by kernel_rfl
theorem oc4 : Try.prog.cellsOf 4 = 1 := by kernel_rfl
theorem oc23 : Try.prog.cellsOf 23 = 1 := by kernel_rfl
theorem oc22 : Try.prog.cellsOf 22 = 1 := by kernel_rfl
theorem oc53 : Try.prog.cellsOf 53 = 1 := by kernel_rfl
theorem oc25 : Try.prog.cellsOf 25 = 6 := by kernel_rfl
theorem oc58 : Try.prog.cellsOf 58 = 2 := by kernel_rfl
theorem oc55 : Try.prog.cellsOf 55 = 2 := by kernel_rfl

theorem open_strs {fuel : Nat} {v : Value} {x : DataW H × List MemPlace} (h : DataW.trod enc Try.prog w 0 (fun _ => true) held fuel 23 [v] = some x) : ∃ s : SD, v = s.val ∧ s.ok w := by
  obtain ⟨A, L, C, b, o, n, hv, hm, h1, h2, h3⟩ := open_many Try.underlying23 oc9 (by omega) h
  obtain ⟨X, hX⟩ := choose_lt (α := ByteArray) (n := L) (p := fun j z => w.cell? ⟨b, o + j, none⟩ = some (.string z) ∧ z.size ≤ 9223372036854775807) (fun j hj => by
    obtain ⟨cs, hl, hc, y, hy⟩ := h3 j hj
    obtain ⟨z, hz, _, hs⟩ := DataW.trod_string Try.underlying9 hy
    have := hc 0 (by omega)
    rw [hz] at this
    unfold maxLen at hs
    exact ⟨z, by simpa using this, by omega⟩)
  unfold maxLen at hm
  exact ⟨⟨A, L, C, b, o, X⟩, hv, by simp only; omega, h1, h2, fun j hj => (hX j hj).1, fun j hj => (hX j hj).2⟩

theorem open_rule {fuel : Nat} {cs : List Value} {x : DataW H × List MemPlace} (hl : cs.length = 6) (h : DataW.trod enc Try.prog w 0 (fun _ => true) held fuel 25 cs = some x) :
    ∃ r : RD, cs = [r.v.val, r.g.val, r.r.val, r.m.val, r.y.val, .bool r.q] ∧ r.ok w := by
  obtain ⟨xs, n, _, _, _, hlen, hf⟩ := DataW.trod_struct Try.underlying25 h
  · obtain ⟨u0, u1, u2, u3, u4, u5, rfl⟩ := list6 hl
    · have hlen : xs.length = 6 := hlen
      have f0 : DataW.trod enc Try.prog w 0 (fun _ => true) held n 23 (([u0, u1, u2, u3, u4, u5].drop 0).take (Try.prog.cellsOf 23)) = xs[0]? := hf 0 _ rfl
      rw [oc23] at f0
      have f1 : DataW.trod enc Try.prog w 0 (fun _ => true) held n 23 (([u0, u1, u2, u3, u4, u5].drop 1).take (Try.prog.cellsOf 23)) = xs[1]? := hf 1 _ rfl
      rw [oc23] at f1
      have f2 : DataW.trod enc Try.prog w 0 (fun _ => true) held n 23 (([u0, u1, u2, u3, u4, u5].drop 2).take (Try.prog.cellsOf 23)) = xs[2]? := hf 2 _ rfl
      rw [oc23] at f2
      have f3 : DataW.trod enc Try.prog w 0 (fun _ => true) held n 23 (([u0, u1, u2, u3, u4, u5].drop 3).take (Try.prog.cellsOf 23)) = xs[3]? := hf 3 _ rfl
      rw [oc23] at f3
      have f4 : DataW.trod enc Try.prog w 0 (fun _ => true) held n 23 (([u0, u1, u2, u3, u4, u5].drop 4).take (Try.prog.cellsOf 23)) = xs[4]? := hf 4 _ rfl
      rw [oc23] at f4
      have f5 : DataW.trod enc Try.prog w 0 (fun _ => true) held n 4 (([u0, u1, u2, u3, u4, u5].drop 5).take (Try.prog.cellsOf 4)) = xs[5]? := hf 5 _ rfl
      rw [oc4] at f5
      simp only [List.drop_zero, List.drop_succ_cons, List.take_succ_cons, List.take_zero] at f0 f1 f2 f3 f4 f5
      obtain ⟨y0, e0⟩ : ∃ y, xs[0]? = some y := ⟨_, List.getElem?_eq_getElem (by omega)⟩
      rw [e0] at f0
      obtain ⟨y1, e1⟩ : ∃ y, xs[1]? = some y := ⟨_, List.getElem?_eq_getElem (by omega)⟩
      rw [e1] at f1
      obtain ⟨y2, e2⟩ : ∃ y, xs[2]? = some y := ⟨_, List.getElem?_eq_getElem (by omega)⟩
      rw [e2] at f2
      obtain ⟨y3, e3⟩ : ∃ y, xs[3]? = some y := ⟨_, List.getElem?_eq_getElem (by omega)⟩
      rw [e3] at f3
      obtain ⟨y4, e4⟩ : ∃ y, xs[4]? = some y := ⟨_, List.getElem?_eq_getElem (by omega)⟩
      rw [e4] at f4
      obtain ⟨y5, e5⟩ : ∃ y, xs[5]? = some y := ⟨_, List.getElem?_eq_getElem (by omega)⟩
      rw [e5] at f5
      obtain ⟨s0, rfl, g0⟩ := open_strs f0
      obtain ⟨s1, rfl, g1⟩ := open_strs f1
      obtain ⟨s2, rfl, g2⟩ := open_strs f2
      obtain ⟨s3, rfl, g3⟩ := open_strs f3
      obtain ⟨s4, rfl, g4⟩ := open_strs f4
      obtain ⟨q, hq, _⟩ := DataW.trod_bool Try.underlying4 f5
      simp at hq
      subst hq
      exact ⟨⟨s0, s1, s2, s3, s4, q⟩, rfl, g0, g1, g2, g3, g4⟩

theorem open_path {fuel : Nat} {cs : List Value} {x : DataW H × List MemPlace} (hl : cs.length = 2) (h : DataW.trod enc Try.prog w 0 (fun _ => true) held fuel 58 cs = some x) :
    ∃ p : PD, cs = [p.v.val, p.u.val] ∧ p.ok w := by
  obtain ⟨xs, n, _, _, _, hlen, hf⟩ := DataW.trod_struct Try.underlying58 h
  · obtain ⟨u0, u1, rfl⟩ := list2 hl
    · have hlen : xs.length = 2 := hlen
      have f0 : DataW.trod enc Try.prog w 0 (fun _ => true) held n 23 (([u0, u1].drop 0).take (Try.prog.cellsOf 23)) = xs[0]? := hf 0 _ rfl
      rw [oc23] at f0
      have f1 : DataW.trod enc Try.prog w 0 (fun _ => true) held n 23 (([u0, u1].drop 1).take (Try.prog.cellsOf 23)) = xs[1]? := hf 1 _ rfl
      rw [oc23] at f1
      simp only [List.drop_zero, List.drop_succ_cons, List.take_succ_cons, List.take_zero] at f0 f1
      obtain ⟨y0, e0⟩ : ∃ y, xs[0]? = some y := ⟨_, List.getElem?_eq_getElem (by omega)⟩
      rw [e0] at f0
      obtain ⟨y1, e1⟩ : ∃ y, xs[1]? = some y := ⟨_, List.getElem?_eq_getElem (by omega)⟩
      rw [e1] at f1
      obtain ⟨s0, rfl, g0⟩ := open_strs f0
      obtain ⟨s1, rfl, g1⟩ := open_strs f1
      exact ⟨⟨s0, s1⟩, rfl, g0, g1⟩

theorem open_rules {fuel : Nat} {v : Value} {x : DataW H × List MemPlace} (h : DataW.trod enc Try.prog w 0 (fun _ => true) held fuel 22 [v] = some x) : ∃ s : RsD, v = s.val ∧ s.ok w := by
  obtain ⟨A, L, C, b, o, n, hv, hm, h1, h2, h3⟩ := open_many Try.underlying22 oc25 (by omega) h
  haveI : Inhabited RD := ⟨⟨⟨none, 0, 0, 0, 0, fun _ => ByteArray.empty⟩, ⟨none, 0, 0, 0, 0, fun _ => ByteArray.empty⟩, ⟨none, 0, 0, 0, 0, fun _ => ByteArray.empty⟩, ⟨none, 0, 0, 0, 0, fun _ => ByteArray.empty⟩, ⟨none, 0, 0, 0, 0, fun _ => ByteArray.empty⟩, false⟩⟩
  obtain ⟨R, hR⟩ := choose_lt (α := RD) (n := L) (p := fun j r => (∀ i, i < 6 → w.cell? ⟨b, o + j * 6 + i, none⟩ = [r.v.val, r.g.val, r.r.val, r.m.val, r.y.val, .bool r.q][i]?) ∧ r.ok w) (fun j hj => by
    obtain ⟨cs, hl, hc, y, hy⟩ := h3 j hj
    obtain ⟨r, rfl, g⟩ := open_rule hl hy
    exact ⟨r, hc, g⟩)
  unfold maxLen at hm
  exact ⟨⟨A, L, C, b, o, R⟩, hv, by simp only; omega, h1, h2, fun j hj => (hR j hj).1 0 (by omega), fun j hj => (hR j hj).1 1 (by omega), fun j hj => (hR j hj).1 2 (by omega), fun j hj => (hR j hj).1 3 (by omega), fun j hj => (hR j hj).1 4 (by omega), fun j hj => (hR j hj).1 5 (by omega), fun j hj => (hR j hj).2⟩

theorem open_paths {fuel : Nat} {v : Value} {x : DataW H × List MemPlace} (h : DataW.trod enc Try.prog w 0 (fun _ => true) held fuel 53 [v] = some x) : ∃ s : PsD, v = s.val ∧ s.ok w := by
  obtain ⟨A, L, C, b, o, n, hv, hm, h1, h2, h3⟩ := open_many Try.underlying53 oc58 (by omega) h
  haveI : Inhabited PD := ⟨⟨⟨none, 0, 0, 0, 0, fun _ => ByteArray.empty⟩, ⟨none, 0, 0, 0, 0, fun _ => ByteArray.empty⟩⟩⟩
  obtain ⟨R, hR⟩ := choose_lt (α := PD) (n := L) (p := fun j r => (∀ i, i < 2 → w.cell? ⟨b, o + j * 2 + i, none⟩ = [r.v.val, r.u.val][i]?) ∧ r.ok w) (fun j hj => by
    obtain ⟨cs, hl, hc, y, hy⟩ := h3 j hj
    obtain ⟨r, rfl, g⟩ := open_path hl hy
    exact ⟨r, hc, g⟩)
  unfold maxLen at hm
  exact ⟨⟨A, L, C, b, o, R⟩, hv, by simp only; omega, h1, h2, fun j hj => (hR j hj).1 0 (by omega), fun j hj => (hR j hj).1 1 (by omega), fun j hj => (hR j hj).2⟩

theorem open_entry {fuel : Nat} {cs : List Value} {x : DataW H × List MemPlace} (hl : cs.length = 2) (h : DataW.trod enc Try.prog w 0 (fun _ => true) held fuel 55 cs = some x) :
    ∃ (a : RsD) (b : PsD), cs = [a.val, b.val] ∧ a.ok w ∧ b.ok w := by
  obtain ⟨xs, n, _, _, _, hlen, hf⟩ := DataW.trod_struct Try.underlying55 h
  · obtain ⟨u0, u1, rfl⟩ := list2 hl
    · have hlen : xs.length = 2 := hlen
      have f0 : DataW.trod enc Try.prog w 0 (fun _ => true) held n 22 (([u0, u1].drop 0).take (Try.prog.cellsOf 22)) = xs[0]? := hf 0 _ rfl
      rw [oc22] at f0
      have f1 : DataW.trod enc Try.prog w 0 (fun _ => true) held n 53 (([u0, u1].drop 1).take (Try.prog.cellsOf 53)) = xs[1]? := hf 1 _ rfl
      rw [oc53] at f1
      simp only [List.drop_zero, List.drop_succ_cons, List.take_succ_cons, List.take_zero] at f0 f1
      obtain ⟨y0, e0⟩ : ∃ y, xs[0]? = some y := ⟨_, List.getElem?_eq_getElem (by omega)⟩
      rw [e0] at f0
      obtain ⟨y1, e1⟩ : ∃ y, xs[1]? = some y := ⟨_, List.getElem?_eq_getElem (by omega)⟩
      rw [e1] at f1
      obtain ⟨s0, rfl, g0⟩ := open_rules f0
      obtain ⟨s1, rfl, g1⟩ := open_paths f1
      exact ⟨s0, s1, rfl, g0, g1⟩

theorem open_entries {fuel : Nat} {v : Value} {x : DataW H × List MemPlace} (h : DataW.trod enc Try.prog w 0 (fun _ => true) held fuel 39 [v] = some x) : ∃ s : EsD, v = s.val ∧ s.ok w := by
  obtain ⟨A, L, C, b, o, n, hv, hm, h1, h2, h3⟩ := open_many Try.underlying39 oc55 (by omega) h
  haveI : Inhabited (RsD × PsD) := ⟨(⟨none, 0, 0, 0, 0, fun _ => ⟨⟨none, 0, 0, 0, 0, fun _ => ByteArray.empty⟩, ⟨none, 0, 0, 0, 0, fun _ => ByteArray.empty⟩, ⟨none, 0, 0, 0, 0, fun _ => ByteArray.empty⟩, ⟨none, 0, 0, 0, 0, fun _ => ByteArray.empty⟩, ⟨none, 0, 0, 0, 0, fun _ => ByteArray.empty⟩, false⟩⟩, ⟨none, 0, 0, 0, 0, fun _ => ⟨⟨none, 0, 0, 0, 0, fun _ => ByteArray.empty⟩, ⟨none, 0, 0, 0, 0, fun _ => ByteArray.empty⟩⟩⟩)⟩
  obtain ⟨R, hR⟩ := choose_lt (α := RsD × PsD) (n := L) (p := fun j r => (∀ i, i < 2 → w.cell? ⟨b, o + j * 2 + i, none⟩ = [r.1.val, r.2.val][i]?) ∧ r.1.ok w ∧ r.2.ok w) (fun j hj => by
    obtain ⟨cs, hl, hc, y, hy⟩ := h3 j hj
    obtain ⟨r, q, rfl, g⟩ := open_entry hl hy
    exact ⟨(r, q), hc, g⟩)
  unfold maxLen at hm
  exact ⟨⟨A, L, C, b, o, fun i => (R i).1, fun i => (R i).2⟩, hv, by simp only; omega, h1, h2, fun j hj => (hR j hj).1 0 (by omega), fun j hj => (hR j hj).1 1 (by omega), fun j hj => (hR j hj).2.1, fun j hj => (hR j hj).2.2⟩
end
end Go.Proofs.Qxb6606073a
