import Derived.Test.Qxb6606073aDa
set_option linter.unusedSimpArgs false
set_option linter.unusedVariables false
namespace Go.Proofs.Qxb6606073a
open Go.RowKit

/-- A loop's relation over a frame of N slots, given by a function. -/
def FrI (N : Nat) (rel : Nat → (Nat → Value) → World → Prop) (k : Nat) (a : Act) (w : World) : Prop := ∃ f : Nat → Value, a = ⟨((List.range N).map f).toArray, []⟩ ∧ rel k f w

theorem FrI_intro {N : Nat} {rel : Nat → (Nat → Value) → World → Prop} {k : Nat} {w : World} (t : Array Value) (h : t.size = N) (hr : rel k (fun i => t[i]?.getD undef) w) : FrI N rel k ⟨t, []⟩ w := by
  refine ⟨_, ?_, hr⟩
  congr 1
  subst h
  apply Array.ext
  · simp
  · intro i h1 h2
    simp [h1]

/-! ### the entries, cell by cell -/
def StrAt (w : World) (b o : Nat) : Prop := ∃ (xa : Option Addr) (xn xc xb xo : Nat) (xS : Nat → ByteArray), w.cell? ⟨b, o, none⟩ = some (.slice xa xn xc) ∧ xn ≤ 9223372036854775807 ∧ Hid (0 < xn → xa = some ⟨xb, xo, none⟩) ∧
  Hid (∀ k, k < xn → w.cell? ⟨xb, xo + k, none⟩ = some (.string (xS k)) ∧ (xS k).size ≤ 9223372036854775807)
theorem SD.ok.at {s : SD} {w : World} (h : s.ok w) {b o : Nat} (hc : w.cell? ⟨b, o, none⟩ = some s.val) : StrAt w b o :=
  ⟨s.a, s.n, s.c, s.b, s.o, s.S, hc, h.n_le, h.ad, fun k hk => ⟨h.cel k hk, h.sz k hk⟩⟩
def RuleAt (w : World) (b o : Nat) : Prop := Hid (StrAt w b o) ∧ Hid (StrAt w b (o + 1)) ∧ Hid (StrAt w b (o + 2)) ∧ Hid (StrAt w b (o + 3)) ∧ Hid (StrAt w b (o + 4))
def PathAt (w : World) (b o : Nat) : Prop := Hid (StrAt w b o) ∧ Hid (StrAt w b (o + 1))
def EntAt (w : World) (b o : Nat) : Prop := ∃ ra rn rc rb ro pa pn pc pb po, w.cell? ⟨b, o, none⟩ = some (.slice ra rn rc) ∧ rn ≤ 9223372036854775807 ∧ w.cell? ⟨b, o + 1, none⟩ = some (.slice pa pn pc) ∧ pn ≤ 9223372036854775807 ∧
  Hid (0 < rn → ra = some ⟨rb, ro, none⟩) ∧ Hid (∀ j, j < rn → RuleAt w rb (ro + j * 6)) ∧ Hid (0 < pn → pa = some ⟨pb, po, none⟩) ∧ Hid (∀ j, j < pn → PathAt w pb (po + j * 2))
def EntsAt (w : World) (a : Option Addr) (n : Nat) : Prop := ∃ b o, Hid (0 < n → a = some ⟨b, o, none⟩) ∧ Hid (∀ i, i < n → EntAt w b (o + i * 2))
theorem EsD.ok.at {e : EsD} {w : World} (h : e.ok w) : EntsAt w e.a e.n :=
  ⟨e.b, e.o, h.ad, fun i hi => ⟨_, _, _, _, _, _, _, _, _, _, h.c0 i hi, (h.rs i hi).n_le, h.c1 i hi, (h.ps i hi).n_le, (h.rs i hi).ad,
    fun j hj => ⟨((h.rs i hi).R j hj).v.at ((h.rs i hi).c0 j hj), ((h.rs i hi).R j hj).g.at ((h.rs i hi).c1 j hj), ((h.rs i hi).R j hj).r.at ((h.rs i hi).c2 j hj), ((h.rs i hi).R j hj).m.at ((h.rs i hi).c3 j hj), ((h.rs i hi).R j hj).y.at ((h.rs i hi).c4 j hj)⟩,
    (h.ps i hi).ad, fun j hj => ⟨((h.ps i hi).P j hj).v.at ((h.ps i hi).c0 j hj), ((h.ps i hi).P j hj).u.at ((h.ps i hi).c1 j hj)⟩⟩⟩
end Go.Proofs.Qxb6606073a
