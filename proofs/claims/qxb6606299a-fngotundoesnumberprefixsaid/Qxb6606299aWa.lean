import Derived.Test.Qxb6606299aRows
import Derived.WalkKit
import Derived.ProofKit
import Derived.Lib.Strings
import Derived.Lib.Slices
import Derived.Lib.Walk
import Derived.Below
set_option linter.unusedSimpArgs false
set_option linter.unusedVariables false
namespace Go.Proofs.Qxb6606299a
open Go.RowKit

set_option maxHeartbeats 1000000 in
theorem cutPrefix18 (s p : ByteArray) (w : World) :
    Calls Try.prog 18 #[.string s, .string p] w fun e w' => e = .returned (.tuple #[.string ⟨(Lib.trimPrefix s.data.toList p.data.toList).toArray⟩, .bool (Lib.hasPrefix s.data.toList p.data.toList)]) ∧ w' = w := by
  go_enter Try.func18, Try.ntmps18
  go_wp2
  · have h2 : (!((s.extract 0 p.size).toList == p.toList)) = true := by assumption
    have h3 : (decide (p.size ≤ s.size) && ((s.extract 0 p.size).toList == p.toList)) = false := by
      have : ((s.extract 0 p.size).toList == p.toList) = false := by simpa using h2
      rw [this]
      simp
    go_ret2
    refine ⟨?_, rfl⟩
    rw [Lib.trimPrefix_miss s p h3, ← Lib.hasPrefix_raw, h3]
    rfl
  · have h1 : p.size ≤ s.size := by assumption
    have h2 : (!((s.extract 0 p.size).toList == p.toList)) = false := by assumption
    have h2' : ((s.extract 0 p.size).toList == p.toList) = true := by simpa using h2
    go_ret2
    refine ⟨?_, rfl⟩
    rw [Lib.trimPrefix_hit s p h1 h2', ← Lib.hasPrefix_raw, h2', decide_eq_true h1]
    rfl
  · have h1 : ¬ p.size ≤ s.size := by assumption
    have h3 : (decide (p.size ≤ s.size) && ((s.extract 0 p.size).toList == p.toList)) = false := by simp [h1]
    go_ret2
    refine ⟨?_, rfl⟩
    rw [Lib.trimPrefix_miss s p h3, ← Lib.hasPrefix_raw, h3]
    rfl

theorem cut_number (s x : ByteArray) (h : s.data.toList = [110, 117, 109, 98, 101, 114, 32] ++ x.data.toList) (w : World) :
    Calls Try.prog 18 #[.string s, .string ⟨#[110, 117, 109, 98, 101, 114, 32]⟩] w fun e w' => e = .returned (.tuple #[.string x, .bool true]) ∧ w = w' := by
  refine (cutPrefix18 s _ w).mono fun e w' ⟨he, hw⟩ => ⟨?_, hw.symm⟩
  have a1 : Lib.hasPrefix s.data.toList [110, 117, 109, 98, 101, 114, 32] = true := by
    rw [h]; simp [Lib.hasPrefix]
  have a2 : (⟨(Lib.trimPrefix s.data.toList [110, 117, 109, 98, 101, 114, 32]).toArray⟩ : ByteArray) = x := by
    rw [Lib.trimPrefix, if_pos a1, h]; simp
  rw [he]
  simp only [a1, a2]

theorem not_word {s x : ByteArray} (h : s.data.toList = [110, 117, 109, 98, 101, 114, 32] ++ x.data.toList) (l : List UInt8)
    (hl : (∀ t, l ≠ [110, 117, 109, 98, 101, 114, 32] ++ t)) : (s.toList == l) = false := by
  rw [beq_eq_false_iff_ne]
  intro e
  refine hl x.data.toList ?_
  rw [← e, ← h, ByteArray.toList_eq]

set_option maxHeartbeats 1000000 in
theorem got17 (s x : ByteArray) (h : s.data.toList = [110, 117, 109, 98, 101, 114, 32] ++ x.data.toList) (w : World) :
    Calls Try.prog 17 #[.string s] w fun e w' => e = .returned (.string x) ∧ w = w' := by
  have H := cut_number s x h
  have e1 : (s.toList == [115, 116, 114, 105, 110, 103]) = false := not_word h _ (by simp)
  have e2 : (s.toList == [110, 117, 109, 98, 101, 114]) = false := not_word h _ (by simp)
  have e3 : (s.toList == [98, 111, 111, 108]) = false := not_word h _ (by simp)
  have e4 : (s.toList == [97, 114, 114, 97, 121]) = false := not_word h _ (by simp)
  have e5 : (s.toList == [111, 98, 106, 101, 99, 116]) = false := not_word h _ (by simp)
  go_enter Try.func17, Try.ntmps17
  go_wp2_with (go_at_call 18; refine (H _).mono ?_; rintro e w' ⟨rfl, rfl⟩)
  go_ret
  exact ⟨rfl, rfl⟩

set_option maxHeartbeats 1000000 in
theorem zzgot12 (s x : ByteArray) (h : s.data.toList = [110, 117, 109, 98, 101, 114, 32] ++ x.data.toList) (w : World) :
    Calls Try.prog 12 #[.string s] w fun e w' => e = .returned (.string x) ∧ w = w' := by
  have H := got17 s x h
  go_enter Try.func12, Try.ntmps12
  go_wp2_with (go_at_call 17; refine (H _).mono ?_; rintro e w' ⟨rfl, rfl⟩)
  go_ret
  exact ⟨rfl, rfl⟩

theorem zz11_true (a : ByteArray) (w : World) (h : a.size ≤ 1048576) :
    Calls Try.prog 11 #[.string a] w fun e w' => e = .returned (.bool true) ∧ w = w' := by
  go_enter Try.func11, Try.ntmps11
  go_wp2
  go_ret
  exact ⟨rfl, rfl⟩

theorem zz11_false (a : ByteArray) (w : World) (h : 1048576 < a.size) (h2 : a.size ≤ 9223372036854775807) :
    Calls Try.prog 11 #[.string a] w fun e w' => e = .returned (.bool false) ∧ w = w' := by
  go_enter Try.func11, Try.ntmps11
  go_wp2
  go_ret
  exact ⟨rfl, rfl⟩

theorem law5_true (a : ByteArray) (w : World) (h : a.size ≤ 1048576) :
    Calls Try.prog 5 #[.string a] w fun e w' => e = .returned (.bool true) ∧ w = w' := by
  have Z := fun w => zz11_true a w h
  have G := fun s hs w => zzgot12 s a hs w
  go_enter Try.func5, Try.ntmps5
  go_wp2_with (first
    | (go_at_call 11; refine (Z _).mono ?_; rintro e w' ⟨rfl, rfl⟩)
    | (go_at_call 12; refine (G _ (by simp) _).mono ?_; rintro e w' ⟨rfl, rfl⟩))
  go_ret
  exact ⟨by simp, rfl⟩

theorem law5_false (a : ByteArray) (w : World) (h : 1048576 < a.size) (h2 : a.size ≤ 9223372036854775807) :
    Calls Try.prog 5 #[.string a] w fun e w' => e = .returned (.bool true) ∧ w = w' := by
  have Z := fun w => zz11_false a w h h2
  go_enter Try.func5, Try.ntmps5
  go_wp2_with (first
    | (go_at_call 11; refine (Z _).mono ?_; rintro e w' ⟨rfl, rfl⟩))
  go_ret
  exact ⟨rfl, rfl⟩
end Go.Proofs.Qxb6606299a
