import Derived.Test.Qxb6606073aTc
import Derived.Maps.Keyed
import Derived.DeepKeys4
set_option linter.unusedSimpArgs false
set_option linter.unusedVariables false
namespace Go.Proofs.Qxb6606073a
open Go.RowKit

/-- An action: verb, group, resource, and whether every subresource. -/
abbrev AK := ByteArray × ByteArray × ByteArray × Bool
def kfA (a : AK) : Value := .agg #[.string a.1, .string a.2.1, .string a.2.2.1, .bool a.2.2.2]
def kfS (s : ByteArray) : Value := .string s
theorem kfS_inj : ∀ a b, kfS a = kfS b → a = b := by intro a b h; unfold kfS at h; injection h
theorem kfA_inj : ∀ a b, kfA a = kfA b → a = b := by
  rintro ⟨a, b, c, d⟩ ⟨a', b', c', d'⟩ h
  unfold kfA at h
  simp at h
  simp [h]

theorem laidT : laidOutB Try.prog = true := by kernel_rfl
theorem row88 : (88 : TypeId) < Try.prog.types.size := of_decide_eq_true (by kernel_rfl)
theorem wide88 : (match Try.prog.underlying 88 with | some (.array _ _) | some (.struct _) => true | _ => false) = true := by kernel_rfl
theorem cells88 : Try.prog.cellsOf 88 = 4 := by kernel_rfl
theorem kt88 : Try.prog.keyTypeAt 3 88 = true := by kernel_rfl
set_option maxRecDepth 100000 in
theorem KA : Maps.Keyed Try.prog 88 := Maps.Keyed.of_law (deep_law_laid laidT (m := 3) (by omega) row88 kt88 wide88)
theorem KS : Maps.Keyed Try.prog 9 := Maps.string_keyed Try.underlying9
theorem okS (s : ByteArray) (h : s.size ≤ 9223372036854775807) : KeyOk Try.prog 9 (kfS s) := ⟨_, WideMaps.keyOf_string_mk Try.underlying9 (by unfold maxLen; omega)⟩
theorem size_types : ∃ d, Try.prog.types.size = d + 4 := ⟨Try.prog.types.size - 4, by have h : (88 : Nat) < Try.prog.types.size := row88; omega⟩
theorem cells83 : Try.prog.cellsOf 83 = 2 := by kernel_rfl
theorem cells9 : Try.prog.cellsOf 9 = 1 := by kernel_rfl
theorem cells4 : Try.prog.cellsOf 4 = 1 := by kernel_rfl
theorem kty88 : Try.prog.keyType 88 = true := by kernel_rfl
theorem okA (a : AK) (h1 : a.1.size ≤ 9223372036854775807) (h2 : a.2.1.size ≤ 9223372036854775807) (h3 : a.2.2.1.size ≤ 9223372036854775807) : KeyOk Try.prog 88 (kfA a) := by
  have f1 : (Value.agg #[.string a.1, .string a.2.1, .string a.2.2.1, .bool a.2.2.2]).formed Try.prog 88 = true := by
    simp [Value.formed, Try.underlying88, cells88]
  obtain ⟨d, hd⟩ := size_types
  have m1 : a.1.size ≤ maxLen := by unfold maxLen; omega
  have m2 : a.2.1.size ≤ maxLen := by unfold maxLen; omega
  have m3 : a.2.2.1.size ≤ maxLen := by unfold maxLen; omega
  unfold KeyOk keyOf kfA
  rw [Try.underlying88]
  simp only [f1, kty88, hd]
  simp [Program.keyLits, Try.underlying88, Try.underlying83, Try.underlying9, Try.underlying4, cells88, cells83, cells9, cells4, Value.cells, m1, m2, m3]
  rw [if_pos (by intro i hi; match i, hi with | 0, _ => simp | 1, _ => simp)]
  exact ⟨_, rfl⟩
end Go.Proofs.Qxb6606073a
