/-
  What the arguments are, in memory.
-/
import Derived.Test.Qxb6606073aRows
import Derived.Test.Qxb6606073aMa
import Derived.WalkKit
import Derived.WalkSpells
import Derived.WalkLawsBesides
import Derived.Deep.QuietTactic
import Derived.BigQuiet
import Derived.Deep.DeepCutAuto
import Derived.Deep.LoopGhost
import Derived.Deep.Light
import Derived.Deep.RegionHeld3
import Derived.BigRegion
set_option linter.unusedSimpArgs false
set_option linter.unusedVariables false
namespace Go.Proofs.Qxb6606073a
open Go.RowKit

theorem hid {p : Prop} (h : p) : Hid p := h
theorem ret_int {k : IntKind} {a b : Int} (h : a = b) : Ending.returned (.int k a) = .returned (.int k b) := by rw [h]
theorem ret_bool {a b : Bool} (h : a = b) : Ending.returned (.bool a) = .returned (.bool b) := by rw [h]
def RetB (e : Ending) : Prop := ∃ r, e = .returned (.bool r)

/-- A slice of strings. -/
structure SD where
  a : Option Addr
  n : Nat
  c : Nat
  b : Nat
  o : Nat
  S : Nat → ByteArray

def SD.val (s : SD) : Value := .slice s.a s.n s.c
structure SD.ok (s : SD) (w : World) : Prop where
  n_le : s.n ≤ 9223372036854775807
  ad : 0 < s.n → s.a = some ⟨s.b, s.o, none⟩
  lt : 0 < s.n → s.b < w.heap.size
  cel : ∀ i, i < s.n → w.cell? ⟨s.b, s.o + i, none⟩ = some (.string (s.S i))
  sz : ∀ i, i < s.n → (s.S i).size ≤ 9223372036854775807

theorem SD.ok.below {s : SD} {w w' : World} (h : s.ok w) (hb : Below w.heap.size w w') : s.ok w' :=
  ⟨h.n_le, h.ad, fun h0 => Nat.lt_of_lt_of_le (h.lt h0) hb.size, fun i hi => (hb.cell (p := ⟨s.b, s.o + i, none⟩) (h.lt (by omega))).trans (h.cel i hi), h.sz⟩

/-- A rule. -/
structure RD where
  v : SD
  g : SD
  r : SD
  m : SD
  y : SD
  q : Bool
def RD.val (r : RD) : Value := .agg #[r.v.val, r.g.val, r.r.val, r.m.val, r.y.val, .bool r.q]
structure RD.ok (x : RD) (w : World) : Prop where
  v : x.v.ok w
  g : x.g.ok w
  r : x.r.ok w
  m : x.m.ok w
  y : x.y.ok w
theorem RD.ok.below {s : RD} {w w' : World} (h : s.ok w) (hb : Below w.heap.size w w') : s.ok w' := ⟨h.v.below hb, h.g.below hb, h.r.below hb, h.m.below hb, h.y.below hb⟩

/-- A rule for paths. -/
structure PD where
  v : SD
  u : SD
def PD.val (p : PD) : Value := .agg #[p.v.val, p.u.val]
structure PD.ok (p : PD) (w : World) : Prop where
  v : p.v.ok w
  u : p.u.ok w
theorem PD.ok.below {s : PD} {w w' : World} (h : s.ok w) (hb : Below w.heap.size w w') : s.ok w' := ⟨h.v.below hb, h.u.below hb⟩

/-- A slice of rules. -/
structure RsD where
  a : Option Addr
  n : Nat
  c : Nat
  b : Nat
  o : Nat
  R : Nat → RD
def RsD.val (s : RsD) : Value := .slice s.a s.n s.c
structure RsD.ok (s : RsD) (w : World) : Prop where
  n_le : s.n ≤ 9223372036854775807
  ad : 0 < s.n → s.a = some ⟨s.b, s.o, none⟩
  lt : 0 < s.n → s.b < w.heap.size
  c0 : ∀ i, i < s.n → w.cell? ⟨s.b, s.o + i * 6, none⟩ = some (s.R i).v.val
  c1 : ∀ i, i < s.n → w.cell? ⟨s.b, s.o + i * 6 + 1, none⟩ = some (s.R i).g.val
  c2 : ∀ i, i < s.n → w.cell? ⟨s.b, s.o + i * 6 + 2, none⟩ = some (s.R i).r.val
  c3 : ∀ i, i < s.n → w.cell? ⟨s.b, s.o + i * 6 + 3, none⟩ = some (s.R i).m.val
  c4 : ∀ i, i < s.n → w.cell? ⟨s.b, s.o + i * 6 + 4, none⟩ = some (s.R i).y.val
  c5 : ∀ i, i < s.n → w.cell? ⟨s.b, s.o + i * 6 + 5, none⟩ = some (.bool (s.R i).q)
  R : ∀ i, i < s.n → (s.R i).ok w
theorem RsD.ok.below {s : RsD} {w w' : World} (h : s.ok w) (hb : Below w.heap.size w w') : s.ok w' := by
  have hc : ∀ i x, i < s.n → w'.cell? ⟨s.b, x, none⟩ = w.cell? ⟨s.b, x, none⟩ := fun i x hi => hb.cell (p := ⟨s.b, x, none⟩) (h.lt (by omega))
  exact ⟨h.n_le, h.ad, fun h0 => Nat.lt_of_lt_of_le (h.lt h0) hb.size, fun i hi => (hc i _ hi).trans (h.c0 i hi), fun i hi => (hc i _ hi).trans (h.c1 i hi), fun i hi => (hc i _ hi).trans (h.c2 i hi),
    fun i hi => (hc i _ hi).trans (h.c3 i hi), fun i hi => (hc i _ hi).trans (h.c4 i hi), fun i hi => (hc i _ hi).trans (h.c5 i hi), fun i hi => (h.R i hi).below hb⟩

/-- A slice of rules for paths. -/
structure PsD where
  a : Option Addr
  n : Nat
  c : Nat
  b : Nat
  o : Nat
  P : Nat → PD
def PsD.val (s : PsD) : Value := .slice s.a s.n s.c
structure PsD.ok (s : PsD) (w : World) : Prop where
  n_le : s.n ≤ 9223372036854775807
  ad : 0 < s.n → s.a = some ⟨s.b, s.o, none⟩
  lt : 0 < s.n → s.b < w.heap.size
  c0 : ∀ i, i < s.n → w.cell? ⟨s.b, s.o + i * 2, none⟩ = some (s.P i).v.val
  c1 : ∀ i, i < s.n → w.cell? ⟨s.b, s.o + i * 2 + 1, none⟩ = some (s.P i).u.val
  P : ∀ i, i < s.n → (s.P i).ok w
theorem PsD.ok.below {s : PsD} {w w' : World} (h : s.ok w) (hb : Below w.heap.size w w') : s.ok w' := by
  have hc : ∀ i x, i < s.n → w'.cell? ⟨s.b, x, none⟩ = w.cell? ⟨s.b, x, none⟩ := fun i x hi => hb.cell (p := ⟨s.b, x, none⟩) (h.lt (by omega))
  exact ⟨h.n_le, h.ad, fun h0 => Nat.lt_of_lt_of_le (h.lt h0) hb.size, fun i hi => (hc i _ hi).trans (h.c0 i hi), fun i hi => (hc i _ hi).trans (h.c1 i hi), fun i hi => (h.P i hi).below hb⟩

/-- The entries. -/
structure EsD where
  a : Option Addr
  n : Nat
  c : Nat
  b : Nat
  o : Nat
  rs : Nat → RsD
  ps : Nat → PsD
def EsD.val (s : EsD) : Value := .slice s.a s.n s.c
structure EsD.ok (s : EsD) (w : World) : Prop where
  n_le : s.n ≤ 9223372036854775807
  ad : 0 < s.n → s.a = some ⟨s.b, s.o, none⟩
  lt : 0 < s.n → s.b < w.heap.size
  c0 : ∀ i, i < s.n → w.cell? ⟨s.b, s.o + i * 2, none⟩ = some (s.rs i).val
  c1 : ∀ i, i < s.n → w.cell? ⟨s.b, s.o + i * 2 + 1, none⟩ = some (s.ps i).val
  rs : ∀ i, i < s.n → (s.rs i).ok w
  ps : ∀ i, i < s.n → (s.ps i).ok w
theorem EsD.ok.below {s : EsD} {w w' : World} (h : s.ok w) (hb : Below w.heap.size w w') : s.ok w' := by
  have hc : ∀ i x, i < s.n → w'.cell? ⟨s.b, x, none⟩ = w.cell? ⟨s.b, x, none⟩ := fun i x hi => hb.cell (p := ⟨s.b, x, none⟩) (h.lt (by omega))
  exact ⟨h.n_le, h.ad, fun h0 => Nat.lt_of_lt_of_le (h.lt h0) hb.size, fun i hi => (hc i _ hi).trans (h.c0 i hi), fun i hi => (hc i _ hi).trans (h.c1 i hi), fun i hi => (h.rs i hi).below hb, fun i hi => (h.ps i hi).below hb⟩

/-! ### sums -/
def ssum (f : Nat → Nat) : Nat → Nat
  | 0 => 0
  | n + 1 => ssum f n + f n
theorem ssum_le (f : Nat → Nat) {i n : Nat} (h : i ≤ n) : ssum f i ≤ ssum f n := by
  induction n with
  | zero => obtain rfl : i = 0 := by omega
            exact Nat.le_refl _
  | succ n ih =>
    by_cases e : i = n + 1
    · subst e; exact Nat.le_refl _
    · have h1 := ih (by omega)
      have h2 : ssum f (n + 1) = ssum f n + f n := rfl
      omega
theorem ssum_at (f : Nat → Nat) {i n : Nat} (h : i < n) : ssum f i + f i ≤ ssum f n := ssum_le f (i := i + 1) h
theorem ssum_one (f : Nat → Nat) {i n : Nat} (h : i < n) : f i ≤ ssum f n := by have := ssum_at f h; omega
theorem ssum_congr {f g : Nat → Nat} : ∀ n, (∀ i, i < n → f i = g i) → ssum f n = ssum g n
  | 0, _ => rfl
  | n + 1, h => by
    unfold ssum
    rw [ssum_congr n (fun i hi => h i (by omega)), h n (by omega)]
theorem ssum_mono {f g : Nat → Nat} : ∀ n, (∀ i, i < n → f i ≤ g i) → ssum f n ≤ ssum g n
  | 0, _ => Nat.le_refl _
  | n + 1, h => by
    have h1 := ssum_mono n (fun i hi => h i (by omega))
    have h2 := h n (by omega)
    unfold ssum
    omega
theorem ssum_const (c : Nat) : ∀ n, ssum (fun _ => c) n = c * n
  | 0 => rfl
  | n + 1 => by
    unfold ssum
    rw [ssum_const c n, Nat.mul_succ]

def cap (n : Nat) : Nat := if n ≤ 1048576 then n else 1048577
theorem cap_le {n : Nat} (h : n ≤ 1048576) : cap n = n := by unfold cap; rw [if_pos h]
theorem cap_gt {n : Nat} (h : ¬ n ≤ 1048576) : cap n = 1048577 := by unfold cap; rw [if_neg h]
theorem cap_bd (n : Nat) : cap n ≤ 1048577 := by unfold cap; split <;> omega
theorem cap_sm {n : Nat} (h : cap n ≤ 1048576) : n ≤ 1048576 := by unfold cap at h; split at h <;> omega
end Go.Proofs.Qxb6606073a
